/- The doors of a super call lowered. No condition. -/
import Derived.Test.YtkhmjppfogppoaaDoorLowX
import Derived.Test.YtkhmjppfogppoaaDoorLowZ
import Derived.Test.YtkhmjppfogppoaaDoorLowN
import Derived.Test.YtkhmjppfogppoaaDoorLoop
import Derived.Test.YtkhmjppfogppoaaDoorLive
import Derived.Test.YtkhmjppfogppoaaDoorApp
import Derived.Test.YtkhmjppfogppoaaDoorOwnK
import Derived.Test.YtkhmjppfogppoaaDoorOwn
import Derived.Test.YtkhmjppfogppoaaDoorDeepCells
import Derived.Test.YtkhmjppfogppoaaDoorRows
import Derived.Test.YtkhmjppfogppoaaDoorUse
namespace Go.Proofs.YtkhmjppfogppoaaDoor.Use
open Go.ChangeShapes Go.WideShapes Go.ChangeAt Go.RowKit Go.Sort Own
set_option linter.unusedVariables false
def dlowX0Post (pb : Nat) (PC : Array Value) (sb c mp ms : Nat) (MC : Array Value) (cr : Nat) (loc : Int) (r s : Bool) (tg sp : Nat) (name : ByteArray) (ec ab : Nat) (blk : Nat → Nat) (n : Nat) (w0 : World) (X : Nat → Obj → Prop) (e : Ending) (w' : World) : Prop :=
  ∃ ca : Nat, ∃ b : Nat, ∃ sx : Nat, ∃ cb : Nat, ∃ xb : Nat, ∃ tb : Nat, ∃ sb2 : Nat, ∃ c2 : Nat, ∃ gb2 : Nat, ∃ cg2 : Nat, ∃ td : Nat, ∃ t2 : Nat, ∃ nb : Nat, ∃ cn : Nat, ∃ sk : Nat, ∃ ub : Nat, ∃ cz : Nat, e = .returned (.tuple #[]) ∧ Own w0 w' [row (pb) 193 (PC.setIfInBounds 106 (.slice (some ⟨sb2, 0, none⟩) 2 (2 + c2))), row (sb2) 56 (full symZ (symL ([sy ⟨#[70, 111, 111]⟩ (uz r 0), sy ⟨#[95, 95, 115, 117, 112, 101, 114, 71, 101, 116]⟩ 1])) c2), ((mp, .map #[⟨.string ⟨#[95, 95, 115, 117, 112, 101, 114, 71, 101, 116]⟩, .agg #[.int .i32 loc, .int .u32 0, .int .u32 1], 0⟩] 1) : Rw), row (ms) 203 (MC.setIfInBounds 5 (.slice (some ⟨gb2, 0, none⟩) 1 (1 + cg2))), row (gb2) 25 (full refZ ([.int .u32 0, .int .u32 1]) cg2), row (cr) 25 #[.int .u32 0, .int .u32 0], row (b) 211 #[.int .u32 0, .int .u32 1, .bool false, .bool false, .bool false], row (ca) 71 #[.iface 209 (.pointer (some ⟨b, 0, none⟩)), .int .i32 loc, .slice (some ⟨sx, 0, none⟩) 3 3, .int .i32 0, .int .u8 0, .int .u8 0, .bool false, .bool false], row (sx) 35 #[.iface (clsTy s) (.pointer (some ⟨cb, 0, none⟩)), .int .i32 loc, .iface (thsTy r) (.pointer (some ⟨tb, 0, none⟩)), .int .i32 loc, .iface 206 (.pointer (some ⟨sk, 0, none⟩)), .int .i32 loc], row (cb) (clsT s) (clsC s loc xb), row (xb) (xtrT s) (xtrC s loc cb), row (tb) (thsT r) (thsC r), row (ec) 71 #[.iface 225 (.pointer (some ⟨td, 0, none⟩)), .int .i32 loc, .slice (some ⟨nb, 0, none⟩) (1 + n) (1 + n + cn), .int .i32 0, .int .u8 0, .int .u8 0, .bool false, .bool false], row (td) 228 #[.iface 65 (.pointer (some ⟨ca, 0, none⟩)), .int .i32 loc, .string ⟨#[99, 97, 108, 108]⟩, .int .i32 loc, .int .u8 0, .bool false, .bool false, .bool false], row (nb) 35 (full exprZ ([.iface 237 (.pointer (some ⟨t2, 0, none⟩)), .int .i32 loc] ++ (args loc blk n)) cn), row (sk) 208 #[.slice (some ⟨ub, 0, none⟩) (u16L name).length ((u16L name).length + cz), .int .i32 0, .bool false, .bool false, .bool false], row (ub) 51 (full u16Z (u16L name) cz)] X
set_option maxRecDepth 100000 in
set_option maxHeartbeats 1000000 in
theorem dlowX0 (pb : Nat) (PC : Array Value) (sb c mp ms : Nat) (MC : Array Value) (cr : Nat) (loc : Int) (r s : Bool) (tg sp : Nat) (name : ByteArray) (ec ab : Nat) (blk : Nat → Nat) (n : Nat) (w0 w : World) (X : Nat → Obj → Prop) (hO : Own w0 w [row (pb) 193 PC, row (sb) 56 (full symZ (symL ([sy ⟨#[70, 111, 111]⟩ 0])) c), ((mp, .map #[] 0) : Rw), row (ms) 203 MC, row (cr) 25 #[.int .u32 0, .int .u32 0], row (ec) 71 #[.iface 225 (.pointer (some ⟨tg, 0, none⟩)), .int .i32 loc, .slice (some ⟨ab, 0, none⟩) n n, .int .i32 0, .int .u8 0, .int .u8 0, .bool false, .bool false], row (tg) 228 #[.iface 229 (.pointer (some ⟨sp, 0, none⟩)), .int .i32 loc, .string name, .int .i32 loc, .int .u8 0, .bool false, .bool false, .bool false], row (ab) 35 ((args loc blk n).toArray)] X) (hk350 : PC[350]? = some (.bool false)) (hk32 : PC[32]? = some (.bool false)) (hk105 : PC[105]? = some (.pointer none)) (hk66 : PC[66]? = some (.int .u32 0)) (hk117 : PC[117]? = some (.map (some mp))) (hk187 : PC[187]? = some (.pointer (some ⟨ms, 0, none⟩))) (hk97 : PC[97]? = some (.pointer (some ⟨cr, 0, none⟩))) (hk95 : PC[95]? = some (.bool r)) (hk96 : PC[96]? = some (.bool s)) (hk106 : PC[106]? = some (.slice (some ⟨sb, 0, none⟩) 1 (1 + c))) (hgen : MC[5]? = some (.slice none 0 0)) (hk338 : PC[338]? = some (.bool true)) (hn : n ≤ 4096) (hlen : name.size ≤ 65536) (hg0 : w0.cell? ⟨0, 0, none⟩ = some (.int .u32 4294967295)) (hg1 : w0.cell? ⟨0, 1, none⟩ = some (.int .u32 4294967295)) :
    Calls Tryd.prog 29 #[.pointer (some ⟨pb, 0, none⟩), .pointer (some ⟨ec, 0, none⟩)] w (dlowX0Post pb PC sb c mp ms MC cr loc r s tg sp name ec ab blk n w0 X) := by
  go_enter Tryd.func29, Tryd.ntmps29
  obtain ⟨c9_4_0, c9_4_1, lt9_4, y9_4, -⟩ := hO.k2 4 rfl
  obtain ⟨c9_5_0, c9_5_1, c9_5_2, c9_5_3, c9_5_4, c9_5_5, c9_5_6, c9_5_7, lt9_5, y9_5, -⟩ := hO.k8 5 rfl
  obtain ⟨c9_6_0, c9_6_1, c9_6_2, c9_6_3, c9_6_4, c9_6_5, c9_6_6, c9_6_7, lt9_6, y9_6, -⟩ := hO.k8 6 rfl
  have HO := Lib.hid hO
  clear hO
  go_wp2_with (first | (with_reducible refine Own.stay (fn := Tryd.f29) ?_) | fail)
  try with_reducible refine Own.Stay.mk ?_
  have hO := HO.out
  clear HO c9_4_0 c9_4_1 lt9_4 y9_4 c9_5_0 c9_5_1 c9_5_2 c9_5_3 c9_5_4 c9_5_5 c9_5_6 c9_5_7 lt9_5 y9_5 c9_6_0 c9_6_1 c9_6_2 c9_6_3 c9_6_4 c9_6_5 c9_6_6 c9_6_7 lt9_6 y9_6
  have hL := hO.apart
  have hX := hO.apartX
  have HL := Lib.hid hL
  have HX := Lib.hid hX
  clear hL hX
  have hP9 := hO.pick [0, 1, 2, 3, 4, 5, 6, 7] (by decide)
  have T9 := lowX0 pb PC sb c mp ms MC cr loc r s tg sp name ec ab blk n _ _ _ hP9 hk350 hk32 hk105 hk66 hk117 hk187 hk97 hk95 hk96 hk106 hgen hk338 hn hlen hg0 hg1
  refine Calls.mono T9 ?_
  clear hP9 T9
  rintro e u1 ⟨nd2, nd3, nd4, nd5, nd6, nd7, nd8, nd9, nd10, nd11, nd12, nd13, nd14, nd15, nd16, nd17, nd18, rfl, hQ⟩
  have hN : Own w0 u1 [row (pb) 193 (PC.setIfInBounds 106 (.slice (some ⟨nd8, 0, none⟩) 2 (2 + nd9))), row (nd8) 56 (full symZ (symL ([sy ⟨#[70, 111, 111]⟩ (uz r 0), sy ⟨#[95, 95, 115, 117, 112, 101, 114, 71, 101, 116]⟩ 1])) nd9), ((mp, .map #[⟨.string ⟨#[95, 95, 115, 117, 112, 101, 114, 71, 101, 116]⟩, .agg #[.int .i32 loc, .int .u32 0, .int .u32 1], 0⟩] 1) : Rw), row (ms) 203 (MC.setIfInBounds 5 (.slice (some ⟨nd10, 0, none⟩) 1 (1 + nd11))), row (nd10) 25 (full refZ [.int .u32 0, .int .u32 1] nd11), row (cr) 25 #[.int .u32 0, .int .u32 0], row (nd3) 211 #[.int .u32 0, .int .u32 1, .bool false, .bool false, .bool false], row (nd2) 71 #[.iface 209 (.pointer (some ⟨nd3, 0, none⟩)), .int .i32 loc, .slice (some ⟨nd4, 0, none⟩) 3 3, .int .i32 0, .int .u8 0, .int .u8 0, .bool false, .bool false], row (nd4) 35 #[.iface (clsTy s) (.pointer (some ⟨nd5, 0, none⟩)), .int .i32 loc, .iface (thsTy r) (.pointer (some ⟨nd7, 0, none⟩)), .int .i32 loc, .iface 206 (.pointer (some ⟨nd16, 0, none⟩)), .int .i32 loc], row (nd5) (clsT s) (clsC s loc nd6), row (nd6) (xtrT s) (xtrC s loc nd5), row (nd7) (thsT r) (thsC r), row (ec) 71 #[.iface 225 (.pointer (some ⟨nd12, 0, none⟩)), .int .i32 loc, .slice (some ⟨nd14, 0, none⟩) (1 + n) (1 + n + nd15), .int .i32 0, .int .u8 0, .int .u8 0, .bool false, .bool false], row (nd12) 228 #[.iface 65 (.pointer (some ⟨nd2, 0, none⟩)), .int .i32 loc, .string ⟨#[99, 97, 108, 108]⟩, .int .i32 loc, .int .u8 0, .bool false, .bool false, .bool false], row (nd14) 35 (full exprZ ([.iface 237 (.pointer (some ⟨nd13, 0, none⟩)), .int .i32 loc] ++ (args loc blk n)) nd15), row (nd16) 208 #[.slice (some ⟨nd17, 0, none⟩) (u16L name).length ((u16L name).length + nd18), .int .i32 0, .bool false, .bool false, .bool false], row (nd17) 51 (full u16Z (u16L name) nd18)] X := hQ.back HL.out HX.out [] (by decide) (by decide)
  clear hQ HL HX hO
  have hO := hN
  clear hN
  obtain ⟨c9_5_0, c9_5_1, lt9_5, y9_5, -⟩ := hO.k2 5 rfl
  obtain ⟨c9_6_0, c9_6_1, c9_6_2, c9_6_3, c9_6_4, lt9_6, y9_6, -⟩ := hO.k5 6 rfl
  obtain ⟨c9_7_0, c9_7_1, c9_7_2, c9_7_3, c9_7_4, c9_7_5, c9_7_6, c9_7_7, lt9_7, y9_7, -⟩ := hO.k8 7 rfl
  obtain ⟨c9_8_0, c9_8_1, c9_8_2, c9_8_3, c9_8_4, c9_8_5, lt9_8, y9_8, -⟩ := hO.k6 8 rfl
  obtain ⟨c9_12_0, c9_12_1, c9_12_2, c9_12_3, c9_12_4, c9_12_5, c9_12_6, c9_12_7, lt9_12, y9_12, -⟩ := hO.k8 12 rfl
  obtain ⟨c9_13_0, c9_13_1, c9_13_2, c9_13_3, c9_13_4, c9_13_5, c9_13_6, c9_13_7, lt9_13, y9_13, -⟩ := hO.k8 13 rfl
  obtain ⟨c9_15_0, c9_15_1, c9_15_2, c9_15_3, c9_15_4, lt9_15, y9_15, -⟩ := hO.k5 15 rfl
  have HO := Lib.hid hO
  clear hO
  go_wp2_with (first | (with_reducible refine Own.stay (fn := Tryd.f29) ?_) | fail)
  try with_reducible refine Own.Stay.mk ?_
  have hO := HO.out
  clear HO c9_5_0 c9_5_1 lt9_5 y9_5 c9_6_0 c9_6_1 c9_6_2 c9_6_3 c9_6_4 lt9_6 y9_6 c9_7_0 c9_7_1 c9_7_2 c9_7_3 c9_7_4 c9_7_5 c9_7_6 c9_7_7 lt9_7 y9_7 c9_8_0 c9_8_1 c9_8_2 c9_8_3 c9_8_4 c9_8_5 lt9_8 y9_8 c9_12_0 c9_12_1 c9_12_2 c9_12_3 c9_12_4 c9_12_5 c9_12_6 c9_12_7 lt9_12 y9_12 c9_13_0 c9_13_1 c9_13_2 c9_13_3 c9_13_4 c9_13_5 c9_13_6 c9_13_7 lt9_13 y9_13 c9_15_0 c9_15_1 c9_15_2 c9_15_3 c9_15_4 lt9_15 y9_15
  refine bodyPost_ret (v := .tuple #[]) ?_ rfl ⟨nd2, nd3, nd4, nd5, nd6, nd7, nd8, nd9, nd10, nd11, nd12, nd13, nd14, nd15, nd16, nd17, nd18, rfl, hO.sub [0, 1, 2, 3, 4, 5, 6, 7, 8, 9, 10, 11, 12, 13, 14, 15, 16] (by decide)⟩
  simp [results, Tryd.results29, go_sem]
def dlowY1Post (pb : Nat) (PC : Array Value) (sb c mp ms : Nat) (MC : Array Value) (cr : Nat) (loc : Int) (r s : Bool) (tg sp ib ec ab : Nat) (blk : Nat → Nat) (n : Nat) (w0 : World) (X : Nat → Obj → Prop) (e : Ending) (w' : World) : Prop :=
  ∃ ca : Nat, ∃ b : Nat, ∃ sx : Nat, ∃ cb : Nat, ∃ xb : Nat, ∃ tb : Nat, ∃ sb2 : Nat, ∃ c2 : Nat, ∃ gb2 : Nat, ∃ cg2 : Nat, ∃ td : Nat, ∃ t2 : Nat, ∃ nb : Nat, ∃ cn : Nat, e = .returned (.tuple #[]) ∧ Own w0 w' [row (pb) 193 (PC.setIfInBounds 106 (.slice (some ⟨sb2, 0, none⟩) 2 (2 + c2))), row (sb2) 56 (full symZ (symL ([sy ⟨#[70, 111, 111]⟩ (uz r 0), sy ⟨#[95, 95, 115, 117, 112, 101, 114, 71, 101, 116]⟩ 1])) c2), ((mp, .map #[⟨.string ⟨#[95, 95, 115, 117, 112, 101, 114, 71, 101, 116]⟩, .agg #[.int .i32 loc, .int .u32 0, .int .u32 1], 0⟩] 1) : Rw), row (ms) 203 (MC.setIfInBounds 5 (.slice (some ⟨gb2, 0, none⟩) 1 (1 + cg2))), row (gb2) 25 (full refZ ([.int .u32 0, .int .u32 1]) cg2), row (cr) 25 #[.int .u32 0, .int .u32 0], row (b) 211 #[.int .u32 0, .int .u32 1, .bool false, .bool false, .bool false], row (ca) 71 #[.iface 209 (.pointer (some ⟨b, 0, none⟩)), .int .i32 loc, .slice (some ⟨sx, 0, none⟩) 3 3, .int .i32 0, .int .u8 0, .int .u8 0, .bool false, .bool false], row (sx) 35 #[.iface (clsTy s) (.pointer (some ⟨cb, 0, none⟩)), .int .i32 loc, .iface (thsTy r) (.pointer (some ⟨tb, 0, none⟩)), .int .i32 loc, .iface 209 (.pointer (some ⟨ib, 0, none⟩)), .int .i32 loc], row (cb) (clsT s) (clsC s loc xb), row (xb) (xtrT s) (xtrC s loc cb), row (tb) (thsT r) (thsC r), row (ec) 71 #[.iface 225 (.pointer (some ⟨td, 0, none⟩)), .int .i32 loc, .slice (some ⟨nb, 0, none⟩) (1 + n) (1 + n + cn), .int .i32 0, .int .u8 0, .int .u8 0, .bool false, .bool false], row (td) 228 #[.iface 65 (.pointer (some ⟨ca, 0, none⟩)), .int .i32 loc, .string ⟨#[99, 97, 108, 108]⟩, .int .i32 loc, .int .u8 0, .bool false, .bool false, .bool false], row (nb) 35 (full exprZ ([.iface 237 (.pointer (some ⟨t2, 0, none⟩)), .int .i32 loc] ++ (args loc blk n)) cn)] X
set_option maxRecDepth 100000 in
set_option maxHeartbeats 1000000 in
theorem dlowY1 (pb : Nat) (PC : Array Value) (sb c mp ms : Nat) (MC : Array Value) (cr : Nat) (loc : Int) (r s : Bool) (tg sp ib ec ab : Nat) (blk : Nat → Nat) (n : Nat) (w0 w : World) (X : Nat → Obj → Prop) (hO : Own w0 w [row (pb) 193 PC, row (sb) 56 (full symZ (symL ([sy ⟨#[70, 111, 111]⟩ 0])) c), ((mp, .map #[] 0) : Rw), row (ms) 203 MC, row (cr) 25 #[.int .u32 0, .int .u32 0], row (ec) 71 #[.iface 231 (.pointer (some ⟨tg, 0, none⟩)), .int .i32 loc, .slice (some ⟨ab, 0, none⟩) n n, .int .i32 0, .int .u8 0, .int .u8 0, .bool false, .bool false], row (tg) 234 #[.iface 229 (.pointer (some ⟨sp, 0, none⟩)), .int .i32 loc, .iface 209 (.pointer (some ⟨ib, 0, none⟩)), .int .i32 loc, .int .i32 0, .int .u8 0, .bool false, .bool false, .bool false], row (ab) 35 ((args loc blk n).toArray)] X) (hk350 : PC[350]? = some (.bool false)) (hk32 : PC[32]? = some (.bool false)) (hk105 : PC[105]? = some (.pointer none)) (hk66 : PC[66]? = some (.int .u32 0)) (hk117 : PC[117]? = some (.map (some mp))) (hk187 : PC[187]? = some (.pointer (some ⟨ms, 0, none⟩))) (hk97 : PC[97]? = some (.pointer (some ⟨cr, 0, none⟩))) (hk95 : PC[95]? = some (.bool r)) (hk96 : PC[96]? = some (.bool s)) (hk106 : PC[106]? = some (.slice (some ⟨sb, 0, none⟩) 1 (1 + c))) (hgen : MC[5]? = some (.slice none 0 0)) (hk338 : PC[338]? = some (.bool true)) (hn : n ≤ 4096) (hg0 : w0.cell? ⟨0, 0, none⟩ = some (.int .u32 4294967295)) (hg1 : w0.cell? ⟨0, 1, none⟩ = some (.int .u32 4294967295)) :
    Calls Tryd.prog 29 #[.pointer (some ⟨pb, 0, none⟩), .pointer (some ⟨ec, 0, none⟩)] w (dlowY1Post pb PC sb c mp ms MC cr loc r s tg sp ib ec ab blk n w0 X) := by
  go_enter Tryd.func29, Tryd.ntmps29
  obtain ⟨c9_4_0, c9_4_1, lt9_4, y9_4, -⟩ := hO.k2 4 rfl
  obtain ⟨c9_5_0, c9_5_1, c9_5_2, c9_5_3, c9_5_4, c9_5_5, c9_5_6, c9_5_7, lt9_5, y9_5, -⟩ := hO.k8 5 rfl
  obtain ⟨c9_6_0, c9_6_1, c9_6_2, c9_6_3, c9_6_4, c9_6_5, c9_6_6, c9_6_7, c9_6_8, lt9_6, y9_6, -⟩ := hO.k9 6 rfl
  have HO := Lib.hid hO
  clear hO
  go_wp2_with (first | (with_reducible refine Own.stay (fn := Tryd.f29) ?_) | fail)
  try with_reducible refine Own.Stay.mk ?_
  have hO := HO.out
  clear HO c9_4_0 c9_4_1 lt9_4 y9_4 c9_5_0 c9_5_1 c9_5_2 c9_5_3 c9_5_4 c9_5_5 c9_5_6 c9_5_7 lt9_5 y9_5 c9_6_0 c9_6_1 c9_6_2 c9_6_3 c9_6_4 c9_6_5 c9_6_6 c9_6_7 c9_6_8 lt9_6 y9_6
  have hL := hO.apart
  have hX := hO.apartX
  have HL := Lib.hid hL
  have HX := Lib.hid hX
  clear hL hX
  have hP9 := hO.pick [0, 1, 2, 3, 4, 5, 6, 7] (by decide)
  have T9 := lowY1 pb PC sb c mp ms MC cr loc r s tg sp ib ec ab blk n _ _ _ hP9 hk350 hk32 hk105 hk66 hk117 hk187 hk97 hk95 hk96 hk106 hgen hk338 hn hg0 hg1
  refine Calls.mono T9 ?_
  clear hP9 T9
  rintro e u1 ⟨nd2, nd3, nd4, nd5, nd6, nd7, nd8, nd9, nd10, nd11, nd12, nd13, nd14, nd15, rfl, hQ⟩
  have hN : Own w0 u1 [row (pb) 193 (PC.setIfInBounds 106 (.slice (some ⟨nd8, 0, none⟩) 2 (2 + nd9))), row (nd8) 56 (full symZ (symL ([sy ⟨#[70, 111, 111]⟩ (uz r 0), sy ⟨#[95, 95, 115, 117, 112, 101, 114, 71, 101, 116]⟩ 1])) nd9), ((mp, .map #[⟨.string ⟨#[95, 95, 115, 117, 112, 101, 114, 71, 101, 116]⟩, .agg #[.int .i32 loc, .int .u32 0, .int .u32 1], 0⟩] 1) : Rw), row (ms) 203 (MC.setIfInBounds 5 (.slice (some ⟨nd10, 0, none⟩) 1 (1 + nd11))), row (nd10) 25 (full refZ [.int .u32 0, .int .u32 1] nd11), row (cr) 25 #[.int .u32 0, .int .u32 0], row (nd3) 211 #[.int .u32 0, .int .u32 1, .bool false, .bool false, .bool false], row (nd2) 71 #[.iface 209 (.pointer (some ⟨nd3, 0, none⟩)), .int .i32 loc, .slice (some ⟨nd4, 0, none⟩) 3 3, .int .i32 0, .int .u8 0, .int .u8 0, .bool false, .bool false], row (nd4) 35 #[.iface (clsTy s) (.pointer (some ⟨nd5, 0, none⟩)), .int .i32 loc, .iface (thsTy r) (.pointer (some ⟨nd7, 0, none⟩)), .int .i32 loc, .iface 209 (.pointer (some ⟨ib, 0, none⟩)), .int .i32 loc], row (nd5) (clsT s) (clsC s loc nd6), row (nd6) (xtrT s) (xtrC s loc nd5), row (nd7) (thsT r) (thsC r), row (ec) 71 #[.iface 225 (.pointer (some ⟨nd12, 0, none⟩)), .int .i32 loc, .slice (some ⟨nd14, 0, none⟩) (1 + n) (1 + n + nd15), .int .i32 0, .int .u8 0, .int .u8 0, .bool false, .bool false], row (nd12) 228 #[.iface 65 (.pointer (some ⟨nd2, 0, none⟩)), .int .i32 loc, .string ⟨#[99, 97, 108, 108]⟩, .int .i32 loc, .int .u8 0, .bool false, .bool false, .bool false], row (nd14) 35 (full exprZ ([.iface 237 (.pointer (some ⟨nd13, 0, none⟩)), .int .i32 loc] ++ (args loc blk n)) nd15)] X := hQ.back HL.out HX.out [] (by decide) (by decide)
  clear hQ HL HX hO
  have hO := hN
  clear hN
  obtain ⟨c9_5_0, c9_5_1, lt9_5, y9_5, -⟩ := hO.k2 5 rfl
  obtain ⟨c9_6_0, c9_6_1, c9_6_2, c9_6_3, c9_6_4, lt9_6, y9_6, -⟩ := hO.k5 6 rfl
  obtain ⟨c9_7_0, c9_7_1, c9_7_2, c9_7_3, c9_7_4, c9_7_5, c9_7_6, c9_7_7, lt9_7, y9_7, -⟩ := hO.k8 7 rfl
  obtain ⟨c9_8_0, c9_8_1, c9_8_2, c9_8_3, c9_8_4, c9_8_5, lt9_8, y9_8, -⟩ := hO.k6 8 rfl
  obtain ⟨c9_12_0, c9_12_1, c9_12_2, c9_12_3, c9_12_4, c9_12_5, c9_12_6, c9_12_7, lt9_12, y9_12, -⟩ := hO.k8 12 rfl
  obtain ⟨c9_13_0, c9_13_1, c9_13_2, c9_13_3, c9_13_4, c9_13_5, c9_13_6, c9_13_7, lt9_13, y9_13, -⟩ := hO.k8 13 rfl
  have HO := Lib.hid hO
  clear hO
  go_wp2_with (first | (with_reducible refine Own.stay (fn := Tryd.f29) ?_) | fail)
  try with_reducible refine Own.Stay.mk ?_
  have hO := HO.out
  clear HO c9_5_0 c9_5_1 lt9_5 y9_5 c9_6_0 c9_6_1 c9_6_2 c9_6_3 c9_6_4 lt9_6 y9_6 c9_7_0 c9_7_1 c9_7_2 c9_7_3 c9_7_4 c9_7_5 c9_7_6 c9_7_7 lt9_7 y9_7 c9_8_0 c9_8_1 c9_8_2 c9_8_3 c9_8_4 c9_8_5 lt9_8 y9_8 c9_12_0 c9_12_1 c9_12_2 c9_12_3 c9_12_4 c9_12_5 c9_12_6 c9_12_7 lt9_12 y9_12 c9_13_0 c9_13_1 c9_13_2 c9_13_3 c9_13_4 c9_13_5 c9_13_6 c9_13_7 lt9_13 y9_13
  refine bodyPost_ret (v := .tuple #[]) ?_ rfl ⟨nd2, nd3, nd4, nd5, nd6, nd7, nd8, nd9, nd10, nd11, nd12, nd13, nd14, nd15, rfl, hO.sub [0, 1, 2, 3, 4, 5, 6, 7, 8, 9, 10, 11, 12, 13, 14] (by decide)⟩
  simp [results, Tryd.results29, go_sem]
def dlowN0Post (pb : Nat) (PC : Array Value) (ec ab ln cp : Nat) (loc : Int) (tg sp : Nat) (name : ByteArray) (w0 : World) (X : Nat → Obj → Prop) (e : Ending) (w' : World) : Prop :=
  e = .returned (.tuple #[]) ∧ Own w0 w' [row (pb) 193 PC, row (ec) 71 #[.iface 225 (.pointer (some ⟨tg, 0, none⟩)), .int .i32 loc, .slice (some ⟨ab, 0, none⟩) ln cp, .int .i32 0, .int .u8 0, .int .u8 0, .bool false, .bool false], row (tg) 228 #[.iface 229 (.pointer (some ⟨sp, 0, none⟩)), .int .i32 loc, .string name, .int .i32 loc, .int .u8 0, .bool false, .bool false, .bool false]] X
set_option maxRecDepth 100000 in
set_option maxHeartbeats 1000000 in
theorem dlowN0 (pb : Nat) (PC : Array Value) (ec ab ln cp : Nat) (loc : Int) (tg sp : Nat) (name : ByteArray) (w0 w : World) (X : Nat → Obj → Prop) (hO : Own w0 w [row (pb) 193 PC, row (ec) 71 #[.iface 225 (.pointer (some ⟨tg, 0, none⟩)), .int .i32 loc, .slice (some ⟨ab, 0, none⟩) ln cp, .int .i32 0, .int .u8 0, .int .u8 0, .bool false, .bool false], row (tg) 228 #[.iface 229 (.pointer (some ⟨sp, 0, none⟩)), .int .i32 loc, .string name, .int .i32 loc, .int .u8 0, .bool false, .bool false, .bool false]] X) (hk338 : PC[338]? = some (.bool false)) :
    Calls Tryd.prog 29 #[.pointer (some ⟨pb, 0, none⟩), .pointer (some ⟨ec, 0, none⟩)] w (dlowN0Post pb PC ec ab ln cp loc tg sp name w0 X) := by
  go_enter Tryd.func29, Tryd.ntmps29
  obtain ⟨c9_1_0, c9_1_1, c9_1_2, c9_1_3, c9_1_4, c9_1_5, c9_1_6, c9_1_7, lt9_1, y9_1, -⟩ := hO.k8 1 rfl
  obtain ⟨c9_2_0, c9_2_1, c9_2_2, c9_2_3, c9_2_4, c9_2_5, c9_2_6, c9_2_7, lt9_2, y9_2, -⟩ := hO.k8 2 rfl
  have HO := Lib.hid hO
  clear hO
  go_wp2_with (first | (with_reducible refine Own.stay (fn := Tryd.f29) ?_) | fail)
  try with_reducible refine Own.Stay.mk ?_
  have hO := HO.out
  clear HO c9_1_0 c9_1_1 c9_1_2 c9_1_3 c9_1_4 c9_1_5 c9_1_6 c9_1_7 lt9_1 y9_1 c9_2_0 c9_2_1 c9_2_2 c9_2_3 c9_2_4 c9_2_5 c9_2_6 c9_2_7 lt9_2 y9_2
  have hL := hO.apart
  have hX := hO.apartX
  have HL := Lib.hid hL
  have HX := Lib.hid hX
  clear hL hX
  have hP9 := hO.pick [0, 1, 2] (by decide)
  have T9 := lowN0 pb PC ec ab ln cp loc tg sp name _ _ _ hP9 hk338
  refine Calls.mono T9 ?_
  clear hP9 T9
  rintro e u1 ⟨rfl, hQ⟩
  have hN : Own w0 u1 [row (pb) 193 PC, row (ec) 71 #[.iface 225 (.pointer (some ⟨tg, 0, none⟩)), .int .i32 loc, .slice (some ⟨ab, 0, none⟩) ln cp, .int .i32 0, .int .u8 0, .int .u8 0, .bool false, .bool false], row (tg) 228 #[.iface 229 (.pointer (some ⟨sp, 0, none⟩)), .int .i32 loc, .string name, .int .i32 loc, .int .u8 0, .bool false, .bool false, .bool false]] X := hQ.back HL.out HX.out [] (by decide) (by decide)
  clear hQ HL HX hO
  have hO := hN
  clear hN
  obtain ⟨c9_1_0, c9_1_1, c9_1_2, c9_1_3, c9_1_4, c9_1_5, c9_1_6, c9_1_7, lt9_1, y9_1, -⟩ := hO.k8 1 rfl
  obtain ⟨c9_2_0, c9_2_1, c9_2_2, c9_2_3, c9_2_4, c9_2_5, c9_2_6, c9_2_7, lt9_2, y9_2, -⟩ := hO.k8 2 rfl
  have HO := Lib.hid hO
  clear hO
  go_wp2_with (first | (with_reducible refine Own.stay (fn := Tryd.f29) ?_) | fail)
  try with_reducible refine Own.Stay.mk ?_
  have hO := HO.out
  clear HO c9_1_0 c9_1_1 c9_1_2 c9_1_3 c9_1_4 c9_1_5 c9_1_6 c9_1_7 lt9_1 y9_1 c9_2_0 c9_2_1 c9_2_2 c9_2_3 c9_2_4 c9_2_5 c9_2_6 c9_2_7 lt9_2 y9_2
  refine bodyPost_ret (v := .tuple #[]) ?_ rfl ⟨rfl, hO.sub [0, 1, 2] (by decide)⟩
  simp [results, Tryd.results29, go_sem]
def dlowN1Post (pb : Nat) (PC : Array Value) (ec ab ln cp : Nat) (loc : Int) (tg sp ib : Nat) (w0 : World) (X : Nat → Obj → Prop) (e : Ending) (w' : World) : Prop :=
  e = .returned (.tuple #[]) ∧ Own w0 w' [row (pb) 193 PC, row (ec) 71 #[.iface 231 (.pointer (some ⟨tg, 0, none⟩)), .int .i32 loc, .slice (some ⟨ab, 0, none⟩) ln cp, .int .i32 0, .int .u8 0, .int .u8 0, .bool false, .bool false], row (tg) 234 #[.iface 229 (.pointer (some ⟨sp, 0, none⟩)), .int .i32 loc, .iface 209 (.pointer (some ⟨ib, 0, none⟩)), .int .i32 loc, .int .i32 0, .int .u8 0, .bool false, .bool false, .bool false]] X
set_option maxRecDepth 100000 in
set_option maxHeartbeats 1000000 in
theorem dlowN1 (pb : Nat) (PC : Array Value) (ec ab ln cp : Nat) (loc : Int) (tg sp ib : Nat) (w0 w : World) (X : Nat → Obj → Prop) (hO : Own w0 w [row (pb) 193 PC, row (ec) 71 #[.iface 231 (.pointer (some ⟨tg, 0, none⟩)), .int .i32 loc, .slice (some ⟨ab, 0, none⟩) ln cp, .int .i32 0, .int .u8 0, .int .u8 0, .bool false, .bool false], row (tg) 234 #[.iface 229 (.pointer (some ⟨sp, 0, none⟩)), .int .i32 loc, .iface 209 (.pointer (some ⟨ib, 0, none⟩)), .int .i32 loc, .int .i32 0, .int .u8 0, .bool false, .bool false, .bool false]] X) (hk338 : PC[338]? = some (.bool false)) :
    Calls Tryd.prog 29 #[.pointer (some ⟨pb, 0, none⟩), .pointer (some ⟨ec, 0, none⟩)] w (dlowN1Post pb PC ec ab ln cp loc tg sp ib w0 X) := by
  go_enter Tryd.func29, Tryd.ntmps29
  obtain ⟨c9_1_0, c9_1_1, c9_1_2, c9_1_3, c9_1_4, c9_1_5, c9_1_6, c9_1_7, lt9_1, y9_1, -⟩ := hO.k8 1 rfl
  obtain ⟨c9_2_0, c9_2_1, c9_2_2, c9_2_3, c9_2_4, c9_2_5, c9_2_6, c9_2_7, c9_2_8, lt9_2, y9_2, -⟩ := hO.k9 2 rfl
  have HO := Lib.hid hO
  clear hO
  go_wp2_with (first | (with_reducible refine Own.stay (fn := Tryd.f29) ?_) | fail)
  try with_reducible refine Own.Stay.mk ?_
  have hO := HO.out
  clear HO c9_1_0 c9_1_1 c9_1_2 c9_1_3 c9_1_4 c9_1_5 c9_1_6 c9_1_7 lt9_1 y9_1 c9_2_0 c9_2_1 c9_2_2 c9_2_3 c9_2_4 c9_2_5 c9_2_6 c9_2_7 c9_2_8 lt9_2 y9_2
  have hL := hO.apart
  have hX := hO.apartX
  have HL := Lib.hid hL
  have HX := Lib.hid hX
  clear hL hX
  have hP9 := hO.pick [0, 1, 2] (by decide)
  have T9 := lowN1 pb PC ec ab ln cp loc tg sp ib _ _ _ hP9 hk338
  refine Calls.mono T9 ?_
  clear hP9 T9
  rintro e u1 ⟨rfl, hQ⟩
  have hN : Own w0 u1 [row (pb) 193 PC, row (ec) 71 #[.iface 231 (.pointer (some ⟨tg, 0, none⟩)), .int .i32 loc, .slice (some ⟨ab, 0, none⟩) ln cp, .int .i32 0, .int .u8 0, .int .u8 0, .bool false, .bool false], row (tg) 234 #[.iface 229 (.pointer (some ⟨sp, 0, none⟩)), .int .i32 loc, .iface 209 (.pointer (some ⟨ib, 0, none⟩)), .int .i32 loc, .int .i32 0, .int .u8 0, .bool false, .bool false, .bool false]] X := hQ.back HL.out HX.out [] (by decide) (by decide)
  clear hQ HL HX hO
  have hO := hN
  clear hN
  obtain ⟨c9_1_0, c9_1_1, c9_1_2, c9_1_3, c9_1_4, c9_1_5, c9_1_6, c9_1_7, lt9_1, y9_1, -⟩ := hO.k8 1 rfl
  obtain ⟨c9_2_0, c9_2_1, c9_2_2, c9_2_3, c9_2_4, c9_2_5, c9_2_6, c9_2_7, c9_2_8, lt9_2, y9_2, -⟩ := hO.k9 2 rfl
  have HO := Lib.hid hO
  clear hO
  go_wp2_with (first | (with_reducible refine Own.stay (fn := Tryd.f29) ?_) | fail)
  try with_reducible refine Own.Stay.mk ?_
  have hO := HO.out
  clear HO c9_1_0 c9_1_1 c9_1_2 c9_1_3 c9_1_4 c9_1_5 c9_1_6 c9_1_7 lt9_1 y9_1 c9_2_0 c9_2_1 c9_2_2 c9_2_3 c9_2_4 c9_2_5 c9_2_6 c9_2_7 c9_2_8 lt9_2 y9_2
  refine bodyPost_ret (v := .tuple #[]) ?_ rfl ⟨rfl, hO.sub [0, 1, 2] (by decide)⟩
  simp [results, Tryd.results29, go_sem]
def dlowN2Post (pb : Nat) (PC : Array Value) (ec ab ln cp : Nat) (loc : Int) (tg : Nat) (name : ByteArray) (ib : Nat) (l : Bool) (w0 : World) (X : Nat → Obj → Prop) (e : Ending) (w' : World) : Prop :=
  e = .returned (.tuple #[]) ∧ Own w0 w' [row (pb) 193 PC, row (ec) 71 #[.iface 225 (.pointer (some ⟨tg, 0, none⟩)), .int .i32 loc, .slice (some ⟨ab, 0, none⟩) ln cp, .int .i32 0, .int .u8 0, .int .u8 0, .bool false, .bool false], row (tg) 228 #[.iface 209 (.pointer (some ⟨ib, 0, none⟩)), .int .i32 loc, .string name, .int .i32 loc, .int .u8 0, .bool false, .bool false, .bool false]] X
set_option maxRecDepth 100000 in
set_option maxHeartbeats 1000000 in
theorem dlowN2 (pb : Nat) (PC : Array Value) (ec ab ln cp : Nat) (loc : Int) (tg : Nat) (name : ByteArray) (ib : Nat) (l : Bool) (w0 w : World) (X : Nat → Obj → Prop) (hO : Own w0 w [row (pb) 193 PC, row (ec) 71 #[.iface 225 (.pointer (some ⟨tg, 0, none⟩)), .int .i32 loc, .slice (some ⟨ab, 0, none⟩) ln cp, .int .i32 0, .int .u8 0, .int .u8 0, .bool false, .bool false], row (tg) 228 #[.iface 209 (.pointer (some ⟨ib, 0, none⟩)), .int .i32 loc, .string name, .int .i32 loc, .int .u8 0, .bool false, .bool false, .bool false]] X) (hk338 : PC[338]? = some (.bool l)) :
    Calls Tryd.prog 29 #[.pointer (some ⟨pb, 0, none⟩), .pointer (some ⟨ec, 0, none⟩)] w (dlowN2Post pb PC ec ab ln cp loc tg name ib l w0 X) := by
  go_enter Tryd.func29, Tryd.ntmps29
  obtain ⟨c9_1_0, c9_1_1, c9_1_2, c9_1_3, c9_1_4, c9_1_5, c9_1_6, c9_1_7, lt9_1, y9_1, -⟩ := hO.k8 1 rfl
  obtain ⟨c9_2_0, c9_2_1, c9_2_2, c9_2_3, c9_2_4, c9_2_5, c9_2_6, c9_2_7, lt9_2, y9_2, -⟩ := hO.k8 2 rfl
  have HO := Lib.hid hO
  clear hO
  go_wp2_with (first | (with_reducible refine Own.stay (fn := Tryd.f29) ?_) | fail)
  try with_reducible refine Own.Stay.mk ?_
  have hO := HO.out
  clear HO c9_1_0 c9_1_1 c9_1_2 c9_1_3 c9_1_4 c9_1_5 c9_1_6 c9_1_7 lt9_1 y9_1 c9_2_0 c9_2_1 c9_2_2 c9_2_3 c9_2_4 c9_2_5 c9_2_6 c9_2_7 lt9_2 y9_2
  have hL := hO.apart
  have hX := hO.apartX
  have HL := Lib.hid hL
  have HX := Lib.hid hX
  clear hL hX
  have hP9 := hO.pick [0, 1, 2] (by decide)
  have T9 := lowN2 pb PC ec ab ln cp loc tg name ib l _ _ _ hP9 hk338
  refine Calls.mono T9 ?_
  clear hP9 T9
  rintro e u1 ⟨rfl, hQ⟩
  have hN : Own w0 u1 [row (pb) 193 PC, row (ec) 71 #[.iface 225 (.pointer (some ⟨tg, 0, none⟩)), .int .i32 loc, .slice (some ⟨ab, 0, none⟩) ln cp, .int .i32 0, .int .u8 0, .int .u8 0, .bool false, .bool false], row (tg) 228 #[.iface 209 (.pointer (some ⟨ib, 0, none⟩)), .int .i32 loc, .string name, .int .i32 loc, .int .u8 0, .bool false, .bool false, .bool false]] X := hQ.back HL.out HX.out [] (by decide) (by decide)
  clear hQ HL HX hO
  have hO := hN
  clear hN
  obtain ⟨c9_1_0, c9_1_1, c9_1_2, c9_1_3, c9_1_4, c9_1_5, c9_1_6, c9_1_7, lt9_1, y9_1, -⟩ := hO.k8 1 rfl
  obtain ⟨c9_2_0, c9_2_1, c9_2_2, c9_2_3, c9_2_4, c9_2_5, c9_2_6, c9_2_7, lt9_2, y9_2, -⟩ := hO.k8 2 rfl
  have HO := Lib.hid hO
  clear hO
  go_wp2_with (first | (with_reducible refine Own.stay (fn := Tryd.f29) ?_) | fail)
  try with_reducible refine Own.Stay.mk ?_
  have hO := HO.out
  clear HO c9_1_0 c9_1_1 c9_1_2 c9_1_3 c9_1_4 c9_1_5 c9_1_6 c9_1_7 lt9_1 y9_1 c9_2_0 c9_2_1 c9_2_2 c9_2_3 c9_2_4 c9_2_5 c9_2_6 c9_2_7 lt9_2 y9_2
  refine bodyPost_ret (v := .tuple #[]) ?_ rfl ⟨rfl, hO.sub [0, 1, 2] (by decide)⟩
  simp [results, Tryd.results29, go_sem]
def dlowN3Post (pb : Nat) (PC : Array Value) (ec ab ln cp : Nat) (loc : Int) (ib : Nat) (w0 : World) (X : Nat → Obj → Prop) (e : Ending) (w' : World) : Prop :=
  e = .returned (.tuple #[]) ∧ Own w0 w' [row (pb) 193 PC, row (ec) 71 #[.iface 209 (.pointer (some ⟨ib, 0, none⟩)), .int .i32 loc, .slice (some ⟨ab, 0, none⟩) ln cp, .int .i32 0, .int .u8 0, .int .u8 0, .bool false, .bool false]] X
set_option maxRecDepth 100000 in
set_option maxHeartbeats 1000000 in
theorem dlowN3 (pb : Nat) (PC : Array Value) (ec ab ln cp : Nat) (loc : Int) (ib : Nat) (w0 w : World) (X : Nat → Obj → Prop) (hO : Own w0 w [row (pb) 193 PC, row (ec) 71 #[.iface 209 (.pointer (some ⟨ib, 0, none⟩)), .int .i32 loc, .slice (some ⟨ab, 0, none⟩) ln cp, .int .i32 0, .int .u8 0, .int .u8 0, .bool false, .bool false]] X)  :
    Calls Tryd.prog 29 #[.pointer (some ⟨pb, 0, none⟩), .pointer (some ⟨ec, 0, none⟩)] w (dlowN3Post pb PC ec ab ln cp loc ib w0 X) := by
  go_enter Tryd.func29, Tryd.ntmps29
  obtain ⟨c9_1_0, c9_1_1, c9_1_2, c9_1_3, c9_1_4, c9_1_5, c9_1_6, c9_1_7, lt9_1, y9_1, -⟩ := hO.k8 1 rfl
  have HO := Lib.hid hO
  clear hO
  go_wp2_with (first | (with_reducible refine Own.stay (fn := Tryd.f29) ?_) | fail)
  try with_reducible refine Own.Stay.mk ?_
  have hO := HO.out
  clear HO c9_1_0 c9_1_1 c9_1_2 c9_1_3 c9_1_4 c9_1_5 c9_1_6 c9_1_7 lt9_1 y9_1
  have hL := hO.apart
  have hX := hO.apartX
  have HL := Lib.hid hL
  have HX := Lib.hid hX
  clear hL hX
  have hP9 := hO.pick [0, 1] (by decide)
  have T9 := lowN3 pb PC ec ab ln cp loc ib _ _ _ hP9 
  refine Calls.mono T9 ?_
  clear hP9 T9
  rintro e u1 ⟨rfl, hQ⟩
  have hN : Own w0 u1 [row (pb) 193 PC, row (ec) 71 #[.iface 209 (.pointer (some ⟨ib, 0, none⟩)), .int .i32 loc, .slice (some ⟨ab, 0, none⟩) ln cp, .int .i32 0, .int .u8 0, .int .u8 0, .bool false, .bool false]] X := hQ.back HL.out HX.out [] (by decide) (by decide)
  clear hQ HL HX hO
  have hO := hN
  clear hN
  obtain ⟨c9_1_0, c9_1_1, c9_1_2, c9_1_3, c9_1_4, c9_1_5, c9_1_6, c9_1_7, lt9_1, y9_1, -⟩ := hO.k8 1 rfl
  have HO := Lib.hid hO
  clear hO
  go_wp2_with (first | (with_reducible refine Own.stay (fn := Tryd.f29) ?_) | fail)
  try with_reducible refine Own.Stay.mk ?_
  have hO := HO.out
  clear HO c9_1_0 c9_1_1 c9_1_2 c9_1_3 c9_1_4 c9_1_5 c9_1_6 c9_1_7 lt9_1 y9_1
  refine bodyPost_ret (v := .tuple #[]) ?_ rfl ⟨rfl, hO.sub [0, 1] (by decide)⟩
  simp [results, Tryd.results29, go_sem]
end Go.Proofs.YtkhmjppfogppoaaDoor.Use
