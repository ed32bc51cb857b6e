/- The door of a super property set. No condition. -/
import Derived.Test.YtkhmjppfogppoaaDoorSetF0
import Derived.Test.YtkhmjppfogppoaaDoorLive
import Derived.Test.YtkhmjppfogppoaaDoorApp
import Derived.Test.YtkhmjppfogppoaaDoorOwnK
import Derived.Test.YtkhmjppfogppoaaDoorOwn
import Derived.Test.YtkhmjppfogppoaaDoorDeepCells
import Derived.Test.YtkhmjppfogppoaaDoorRows
import Derived.Test.YtkhmjppfogppoaaDoorUse
namespace Go.Proofs.YtkhmjppfogppoaaDoor.Use
open Go.ChangeShapes Go.WideShapes Go.ChangeAt Go.RowKit Go.Sort Own
set_option linter.unusedVariables false
def dsupSetniF0i0Post (pb : Nat) (PC : Array Value) (sb c mp ms : Nat) (MC : Array Value) (cr : Nat) (loc : Int) (kT kx : Nat) (kl : Int) (vT vx : Nat) (vl : Int) (w0 : World) (X : Nat → Obj → Prop) (e : Ending) (w' : World) : Prop :=
  ∃ ca : Nat, ∃ b : Nat, ∃ sx : Nat, ∃ i1 : Nat, ∃ th : Nat, ∃ d1 : Nat, ∃ sb2 : Nat, ∃ c2 : Nat, ∃ gb2 : Nat, ∃ cg2 : Nat, e = .returned (.agg #[.iface 65 (.pointer (some ⟨ca, 0, none⟩)), .int .i32 loc]) ∧ Own w0 w' [row (pb) 193 (PC.setIfInBounds 106 (.slice (some ⟨sb2, 0, none⟩) 2 (2 + c2))), row (sb2) 56 (full symZ (symL ([sy ⟨#[70, 111, 111]⟩ 1, sy ⟨#[95, 95, 115, 117, 112, 101, 114, 83, 101, 116]⟩ 1])) c2), ((mp, .map #[⟨.string ⟨#[95, 95, 115, 117, 112, 101, 114, 83, 101, 116]⟩, .agg #[.int .i32 loc, .int .u32 0, .int .u32 1], 0⟩] 1) : Rw), row (ms) 203 (MC.setIfInBounds 5 (.slice (some ⟨gb2, 0, none⟩) 1 (1 + cg2))), row (gb2) 25 (full refZ ([.int .u32 0, .int .u32 1]) cg2), row (cr) 25 #[.int .u32 0, .int .u32 0], row (b) 211 #[.int .u32 0, .int .u32 1, .bool false, .bool false, .bool false], row (ca) 71 #[.iface 209 (.pointer (some ⟨b, 0, none⟩)), .int .i32 loc, .slice (some ⟨sx, 0, none⟩) 4 4, .int .i32 0, .int .u8 0, .int .u8 0, .bool false, .bool false], row (sx) 35 #[.iface 225 (.pointer (some ⟨d1, 0, none⟩)), .int .i32 loc, .iface 237 (.pointer (some ⟨th, 0, none⟩)), .int .i32 loc, .iface kT (.pointer (some ⟨kx, 0, none⟩)), .int .i32 kl, .iface vT (.pointer (some ⟨vx, 0, none⟩)), .int .i32 vl], row (i1) 211 #[.int .u32 0, .int .u32 0, .bool false, .bool false, .bool false], row (th) 241 #[], row (d1) 228 #[.iface 209 (.pointer (some ⟨i1, 0, none⟩)), .int .i32 loc, .string ⟨#[112, 114, 111, 116, 111, 116, 121, 112, 101]⟩, .int .i32 loc, .int .u8 0, .bool false, .bool false, .bool false]] X
set_option maxRecDepth 100000 in
set_option maxHeartbeats 1000000 in
theorem dsupSetniF0i0 (pb : Nat) (PC : Array Value) (sb c mp ms : Nat) (MC : Array Value) (cr : Nat) (loc : Int) (kT kx : Nat) (kl : Int) (vT vx : Nat) (vl : Int) (w0 w : World) (X : Nat → Obj → Prop) (hO : Own w0 w [row (pb) 193 PC, row (sb) 56 (full symZ (symL ([sy ⟨#[70, 111, 111]⟩ 0])) c), ((mp, .map #[] 0) : Rw), row (ms) 203 MC, row (cr) 25 #[.int .u32 0, .int .u32 0]] X) (hk350 : PC[350]? = some (.bool false)) (hk32 : PC[32]? = some (.bool false)) (hk105 : PC[105]? = some (.pointer none)) (hk66 : PC[66]? = some (.int .u32 0)) (hk117 : PC[117]? = some (.map (some mp))) (hk187 : PC[187]? = some (.pointer (some ⟨ms, 0, none⟩))) (hk97 : PC[97]? = some (.pointer (some ⟨cr, 0, none⟩))) (hk95 : PC[95]? = some (.bool false)) (hk96 : PC[96]? = some (.bool false)) (hk106 : PC[106]? = some (.slice (some ⟨sb, 0, none⟩) 1 (1 + c))) (hgen : MC[5]? = some (.slice none 0 0)) (hg0 : w0.cell? ⟨0, 0, none⟩ = some (.int .u32 4294967295)) (hg1 : w0.cell? ⟨0, 1, none⟩ = some (.int .u32 4294967295)) :
    Calls Tryd.prog 11 #[.pointer (some ⟨pb, 0, none⟩), .agg #[.int .i32 loc], .agg #[.iface kT (.pointer (some ⟨kx, 0, none⟩)), .int .i32 kl], .agg #[.iface vT (.pointer (some ⟨vx, 0, none⟩)), .int .i32 vl]] w (dsupSetniF0i0Post pb PC sb c mp ms MC cr loc kT kx kl vT vx vl w0 X) := by
  go_enter Tryd.func11, Tryd.ntmps11
  obtain ⟨c9_4_0, c9_4_1, lt9_4, y9_4, -⟩ := hO.k2 4 rfl
  have HO := Lib.hid hO
  clear hO
  go_wp2_with (first | (with_reducible refine Own.stay (fn := Tryd.f11) ?_) | fail)
  try with_reducible refine Own.Stay.mk ?_
  have hO := HO.out
  clear HO c9_4_0 c9_4_1 lt9_4 y9_4
  generalize hW : World.alloc _ _ = W2
  have hN : Own w0 W2 [row (w.heap.size + 1 + 1 + 1) 35 #[.nilIface, .int .i32 0], row (w.heap.size + 1 + 1) 35 #[.iface vT (.pointer (some ⟨vx, 0, none⟩)), .int .i32 vl], row (w.heap.size + 1) 35 #[.iface kT (.pointer (some ⟨kx, 0, none⟩)), .int .i32 kl], row (w.heap.size) 31 #[.int .i32 loc], row (pb) 193 PC, row (sb) 56 (full symZ (symL ([sy ⟨#[70, 111, 111]⟩ 0])) c), ((mp, .map #[] 0) : Rw), row (ms) 203 MC, row (cr) 25 #[.int .u32 0, .int .u32 0]] X := by
    rw [← hW]
    exact ((((hO).alloc' _ (w.heap.size) (by simp)).alloc' _ (w.heap.size + 1) (by simp)).alloc' _ (w.heap.size + 1 + 1) (by simp)).alloc' _ (w.heap.size + 1 + 1 + 1) (by simp)
  clear hW hO
  generalize w.heap.size + 1 + 1 + 1 = B1_3 at hN ⊢
  generalize w.heap.size + 1 + 1 = B1_2 at hN ⊢
  generalize w.heap.size + 1 = B1_1 at hN ⊢
  generalize w.heap.size = B1 at hN ⊢
  have hO := hN
  clear hN
  have hL := hO.apart
  have hX := hO.apartX
  have HL := Lib.hid hL
  have HX := Lib.hid hX
  clear hL hX
  have hP9 := hO.pick [4, 5, 6, 7, 8] (by decide)
  have T9 := supSetniF0i0 pb PC sb c mp ms MC cr loc kT kx kl vT vx vl _ _ _ hP9 hk350 hk32 hk105 hk66 hk117 hk187 hk97 hk95 hk96 hk106 hgen hg0 hg1
  refine Calls.mono T9 ?_
  clear hP9 T9
  rintro e u3 ⟨nd4, nd5, nd6, nd7, nd8, nd9, nd10, nd11, nd12, nd13, rfl, hQ⟩
  have hN : Own w0 u3 [row (pb) 193 (PC.setIfInBounds 106 (.slice (some ⟨nd10, 0, none⟩) 2 (2 + nd11))), row (nd10) 56 (full symZ (symL ([sy ⟨#[70, 111, 111]⟩ 1, sy ⟨#[95, 95, 115, 117, 112, 101, 114, 83, 101, 116]⟩ 1])) nd11), ((mp, .map #[⟨.string ⟨#[95, 95, 115, 117, 112, 101, 114, 83, 101, 116]⟩, .agg #[.int .i32 loc, .int .u32 0, .int .u32 1], 0⟩] 1) : Rw), row (ms) 203 (MC.setIfInBounds 5 (.slice (some ⟨nd12, 0, none⟩) 1 (1 + nd13))), row (nd12) 25 (full refZ [.int .u32 0, .int .u32 1] nd13), row (cr) 25 #[.int .u32 0, .int .u32 0], row (nd5) 211 #[.int .u32 0, .int .u32 1, .bool false, .bool false, .bool false], row (nd4) 71 #[.iface 209 (.pointer (some ⟨nd5, 0, none⟩)), .int .i32 loc, .slice (some ⟨nd6, 0, none⟩) 4 4, .int .i32 0, .int .u8 0, .int .u8 0, .bool false, .bool false], row (nd6) 35 #[.iface 225 (.pointer (some ⟨nd9, 0, none⟩)), .int .i32 loc, .iface 237 (.pointer (some ⟨nd8, 0, none⟩)), .int .i32 loc, .iface kT (.pointer (some ⟨kx, 0, none⟩)), .int .i32 kl, .iface vT (.pointer (some ⟨vx, 0, none⟩)), .int .i32 vl], row (nd7) 211 #[.int .u32 0, .int .u32 0, .bool false, .bool false, .bool false], row (nd8) 241 #[], row (nd9) 228 #[.iface 209 (.pointer (some ⟨nd7, 0, none⟩)), .int .i32 loc, .string ⟨#[112, 114, 111, 116, 111, 116, 121, 112, 101]⟩, .int .i32 loc, .int .u8 0, .bool false, .bool false, .bool false], row (B1_3) 35 #[.nilIface, .int .i32 0], row (B1_2) 35 #[.iface vT (.pointer (some ⟨vx, 0, none⟩)), .int .i32 vl], row (B1_1) 35 #[.iface kT (.pointer (some ⟨kx, 0, none⟩)), .int .i32 kl], row (B1) 31 #[.int .i32 loc]] X := hQ.back HL.out HX.out [0, 1, 2, 3] (by decide) (by decide)
  clear hQ HL HX hO
  have hO := hN
  clear hN
  obtain ⟨c9_5_0, c9_5_1, lt9_5, y9_5, -⟩ := hO.k2 5 rfl
  obtain ⟨c9_6_0, c9_6_1, c9_6_2, c9_6_3, c9_6_4, lt9_6, y9_6, -⟩ := hO.k5 6 rfl
  obtain ⟨c9_7_0, c9_7_1, c9_7_2, c9_7_3, c9_7_4, c9_7_5, c9_7_6, c9_7_7, lt9_7, y9_7, -⟩ := hO.k8 7 rfl
  obtain ⟨c9_8_0, c9_8_1, c9_8_2, c9_8_3, c9_8_4, c9_8_5, c9_8_6, c9_8_7, lt9_8, y9_8, -⟩ := hO.k8 8 rfl
  obtain ⟨c9_9_0, c9_9_1, c9_9_2, c9_9_3, c9_9_4, lt9_9, y9_9, -⟩ := hO.k5 9 rfl
  obtain ⟨lt9_10, y9_10, -⟩ := hO.k0 10 rfl
  obtain ⟨c9_11_0, c9_11_1, c9_11_2, c9_11_3, c9_11_4, c9_11_5, c9_11_6, c9_11_7, lt9_11, y9_11, -⟩ := hO.k8 11 rfl
  obtain ⟨c9_12_0, c9_12_1, lt9_12, y9_12, -⟩ := hO.k2 12 rfl
  obtain ⟨c9_13_0, c9_13_1, lt9_13, y9_13, -⟩ := hO.k2 13 rfl
  obtain ⟨c9_14_0, c9_14_1, lt9_14, y9_14, -⟩ := hO.k2 14 rfl
  obtain ⟨c9_15_0, lt9_15, y9_15, -⟩ := hO.k1 15 rfl
  have HO := Lib.hid hO
  clear hO
  go_wp2_with (first | (with_reducible refine Own.stay (fn := Tryd.f11) ?_) | fail)
  try with_reducible refine Own.Stay.mk ?_
  have hO := HO.out
  clear HO c9_5_0 c9_5_1 lt9_5 y9_5 c9_6_0 c9_6_1 c9_6_2 c9_6_3 c9_6_4 lt9_6 y9_6 c9_7_0 c9_7_1 c9_7_2 c9_7_3 c9_7_4 c9_7_5 c9_7_6 c9_7_7 lt9_7 y9_7 c9_8_0 c9_8_1 c9_8_2 c9_8_3 c9_8_4 c9_8_5 c9_8_6 c9_8_7 lt9_8 y9_8 c9_9_0 c9_9_1 c9_9_2 c9_9_3 c9_9_4 lt9_9 y9_9 lt9_10 y9_10 c9_11_0 c9_11_1 c9_11_2 c9_11_3 c9_11_4 c9_11_5 c9_11_6 c9_11_7 lt9_11 y9_11 c9_12_0 c9_12_1 lt9_12 y9_12 c9_13_0 c9_13_1 lt9_13 y9_13 c9_14_0 c9_14_1 lt9_14 y9_14 c9_15_0 lt9_15 y9_15
  generalize hW : World.setCell _ _ _ = W15
  have hN : Own w0 W15 [row (pb) 193 (PC.setIfInBounds 106 (.slice (some ⟨nd10, 0, none⟩) 2 (2 + nd11))), row (nd10) 56 (full symZ (symL ([sy ⟨#[70, 111, 111]⟩ 1, sy ⟨#[95, 95, 115, 117, 112, 101, 114, 83, 101, 116]⟩ 1])) nd11), ((mp, .map #[⟨.string ⟨#[95, 95, 115, 117, 112, 101, 114, 83, 101, 116]⟩, .agg #[.int .i32 loc, .int .u32 0, .int .u32 1], 0⟩] 1) : Rw), row (ms) 203 (MC.setIfInBounds 5 (.slice (some ⟨nd12, 0, none⟩) 1 (1 + nd13))), row (nd12) 25 (full refZ [.int .u32 0, .int .u32 1] nd13), row (cr) 25 #[.int .u32 0, .int .u32 0], row (nd5) 211 #[.int .u32 0, .int .u32 1, .bool false, .bool false, .bool false], row (nd4) 71 #[.iface 209 (.pointer (some ⟨nd5, 0, none⟩)), .int .i32 loc, .slice (some ⟨nd6, 0, none⟩) 4 4, .int .i32 0, .int .u8 0, .int .u8 0, .bool false, .bool false], row (nd6) 35 #[.iface 225 (.pointer (some ⟨nd9, 0, none⟩)), .int .i32 loc, .iface 237 (.pointer (some ⟨nd8, 0, none⟩)), .int .i32 loc, .iface kT (.pointer (some ⟨kx, 0, none⟩)), .int .i32 kl, .iface vT (.pointer (some ⟨vx, 0, none⟩)), .int .i32 vl], row (nd7) 211 #[.int .u32 0, .int .u32 0, .bool false, .bool false, .bool false], row (nd8) 241 #[], row (nd9) 228 #[.iface 209 (.pointer (some ⟨nd7, 0, none⟩)), .int .i32 loc, .string ⟨#[112, 114, 111, 116, 111, 116, 121, 112, 101]⟩, .int .i32 loc, .int .u8 0, .bool false, .bool false, .bool false], row (B1_3) 35 #[.iface 65 (.pointer (some ⟨nd4, 0, none⟩)), .int .i32 loc], row (B1_2) 35 #[.iface vT (.pointer (some ⟨vx, 0, none⟩)), .int .i32 vl], row (B1_1) 35 #[.iface kT (.pointer (some ⟨kx, 0, none⟩)), .int .i32 kl], row (B1) 31 #[.int .i32 loc]] X := by
    rw [← hW]
    exact ((hO).set 12 rfl 0 _).set 12 rfl 1 _
  clear hW hO
  have hO := hN
  clear hN
  have z9_12_0 : W15.cell? ⟨B1_3, 0, none⟩ = some (.iface 65 (.pointer (some ⟨nd4, 0, none⟩))) := hO.cell 12 rfl 0 rfl
  have z9_12_1 : W15.cell? ⟨B1_3, 1, none⟩ = some (.int .i32 loc) := hO.cell 12 rfl 1 rfl
  refine bodyPost_ret (v := .agg #[.iface 65 (.pointer (some ⟨nd4, 0, none⟩)), .int .i32 loc]) ?_ rfl ⟨nd4, nd5, nd6, nd7, nd8, nd9, nd10, nd11, nd12, nd13, rfl, hO.sub [0, 1, 2, 3, 4, 5, 6, 7, 8, 9, 10, 11] (by decide)⟩
  simp [results, Tryd.results11, go_sem, z9_12_0, z9_12_1]
def dsupSetnsF0i0Post (pb : Nat) (PC : Array Value) (sb c mp ms : Nat) (MC : Array Value) (cr : Nat) (loc : Int) (kT kx : Nat) (kl : Int) (vT vx : Nat) (vl : Int) (w0 : World) (X : Nat → Obj → Prop) (e : Ending) (w' : World) : Prop :=
  ∃ ca : Nat, ∃ b : Nat, ∃ sx : Nat, ∃ i1 : Nat, ∃ th : Nat, ∃ sb2 : Nat, ∃ c2 : Nat, ∃ gb2 : Nat, ∃ cg2 : Nat, e = .returned (.agg #[.iface 65 (.pointer (some ⟨ca, 0, none⟩)), .int .i32 loc]) ∧ Own w0 w' [row (pb) 193 (PC.setIfInBounds 106 (.slice (some ⟨sb2, 0, none⟩) 2 (2 + c2))), row (sb2) 56 (full symZ (symL ([sy ⟨#[70, 111, 111]⟩ 1, sy ⟨#[95, 95, 115, 117, 112, 101, 114, 83, 101, 116]⟩ 1])) c2), ((mp, .map #[⟨.string ⟨#[95, 95, 115, 117, 112, 101, 114, 83, 101, 116]⟩, .agg #[.int .i32 loc, .int .u32 0, .int .u32 1], 0⟩] 1) : Rw), row (ms) 203 (MC.setIfInBounds 5 (.slice (some ⟨gb2, 0, none⟩) 1 (1 + cg2))), row (gb2) 25 (full refZ ([.int .u32 0, .int .u32 1]) cg2), row (cr) 25 #[.int .u32 0, .int .u32 0], row (b) 211 #[.int .u32 0, .int .u32 1, .bool false, .bool false, .bool false], row (ca) 71 #[.iface 209 (.pointer (some ⟨b, 0, none⟩)), .int .i32 loc, .slice (some ⟨sx, 0, none⟩) 4 4, .int .i32 0, .int .u8 0, .int .u8 0, .bool false, .bool false], row (sx) 35 #[.iface 209 (.pointer (some ⟨i1, 0, none⟩)), .int .i32 loc, .iface 237 (.pointer (some ⟨th, 0, none⟩)), .int .i32 loc, .iface kT (.pointer (some ⟨kx, 0, none⟩)), .int .i32 kl, .iface vT (.pointer (some ⟨vx, 0, none⟩)), .int .i32 vl], row (i1) 211 #[.int .u32 0, .int .u32 0, .bool false, .bool false, .bool false], row (th) 241 #[]] X
set_option maxRecDepth 100000 in
set_option maxHeartbeats 1000000 in
theorem dsupSetnsF0i0 (pb : Nat) (PC : Array Value) (sb c mp ms : Nat) (MC : Array Value) (cr : Nat) (loc : Int) (kT kx : Nat) (kl : Int) (vT vx : Nat) (vl : Int) (w0 w : World) (X : Nat → Obj → Prop) (hO : Own w0 w [row (pb) 193 PC, row (sb) 56 (full symZ (symL ([sy ⟨#[70, 111, 111]⟩ 0])) c), ((mp, .map #[] 0) : Rw), row (ms) 203 MC, row (cr) 25 #[.int .u32 0, .int .u32 0]] X) (hk350 : PC[350]? = some (.bool false)) (hk32 : PC[32]? = some (.bool false)) (hk105 : PC[105]? = some (.pointer none)) (hk66 : PC[66]? = some (.int .u32 0)) (hk117 : PC[117]? = some (.map (some mp))) (hk187 : PC[187]? = some (.pointer (some ⟨ms, 0, none⟩))) (hk97 : PC[97]? = some (.pointer (some ⟨cr, 0, none⟩))) (hk95 : PC[95]? = some (.bool false)) (hk96 : PC[96]? = some (.bool true)) (hk106 : PC[106]? = some (.slice (some ⟨sb, 0, none⟩) 1 (1 + c))) (hgen : MC[5]? = some (.slice none 0 0)) (hg0 : w0.cell? ⟨0, 0, none⟩ = some (.int .u32 4294967295)) (hg1 : w0.cell? ⟨0, 1, none⟩ = some (.int .u32 4294967295)) :
    Calls Tryd.prog 11 #[.pointer (some ⟨pb, 0, none⟩), .agg #[.int .i32 loc], .agg #[.iface kT (.pointer (some ⟨kx, 0, none⟩)), .int .i32 kl], .agg #[.iface vT (.pointer (some ⟨vx, 0, none⟩)), .int .i32 vl]] w (dsupSetnsF0i0Post pb PC sb c mp ms MC cr loc kT kx kl vT vx vl w0 X) := by
  go_enter Tryd.func11, Tryd.ntmps11
  obtain ⟨c9_4_0, c9_4_1, lt9_4, y9_4, -⟩ := hO.k2 4 rfl
  have HO := Lib.hid hO
  clear hO
  go_wp2_with (first | (with_reducible refine Own.stay (fn := Tryd.f11) ?_) | fail)
  try with_reducible refine Own.Stay.mk ?_
  have hO := HO.out
  clear HO c9_4_0 c9_4_1 lt9_4 y9_4
  generalize hW : World.alloc _ _ = W2
  have hN : Own w0 W2 [row (w.heap.size + 1 + 1 + 1) 35 #[.nilIface, .int .i32 0], row (w.heap.size + 1 + 1) 35 #[.iface vT (.pointer (some ⟨vx, 0, none⟩)), .int .i32 vl], row (w.heap.size + 1) 35 #[.iface kT (.pointer (some ⟨kx, 0, none⟩)), .int .i32 kl], row (w.heap.size) 31 #[.int .i32 loc], row (pb) 193 PC, row (sb) 56 (full symZ (symL ([sy ⟨#[70, 111, 111]⟩ 0])) c), ((mp, .map #[] 0) : Rw), row (ms) 203 MC, row (cr) 25 #[.int .u32 0, .int .u32 0]] X := by
    rw [← hW]
    exact ((((hO).alloc' _ (w.heap.size) (by simp)).alloc' _ (w.heap.size + 1) (by simp)).alloc' _ (w.heap.size + 1 + 1) (by simp)).alloc' _ (w.heap.size + 1 + 1 + 1) (by simp)
  clear hW hO
  generalize w.heap.size + 1 + 1 + 1 = B1_3 at hN ⊢
  generalize w.heap.size + 1 + 1 = B1_2 at hN ⊢
  generalize w.heap.size + 1 = B1_1 at hN ⊢
  generalize w.heap.size = B1 at hN ⊢
  have hO := hN
  clear hN
  have hL := hO.apart
  have hX := hO.apartX
  have HL := Lib.hid hL
  have HX := Lib.hid hX
  clear hL hX
  have hP9 := hO.pick [4, 5, 6, 7, 8] (by decide)
  have T9 := supSetnsF0i0 pb PC sb c mp ms MC cr loc kT kx kl vT vx vl _ _ _ hP9 hk350 hk32 hk105 hk66 hk117 hk187 hk97 hk95 hk96 hk106 hgen hg0 hg1
  refine Calls.mono T9 ?_
  clear hP9 T9
  rintro e u3 ⟨nd4, nd5, nd6, nd7, nd8, nd9, nd10, nd11, nd12, rfl, hQ⟩
  have hN : Own w0 u3 [row (pb) 193 (PC.setIfInBounds 106 (.slice (some ⟨nd9, 0, none⟩) 2 (2 + nd10))), row (nd9) 56 (full symZ (symL ([sy ⟨#[70, 111, 111]⟩ 1, sy ⟨#[95, 95, 115, 117, 112, 101, 114, 83, 101, 116]⟩ 1])) nd10), ((mp, .map #[⟨.string ⟨#[95, 95, 115, 117, 112, 101, 114, 83, 101, 116]⟩, .agg #[.int .i32 loc, .int .u32 0, .int .u32 1], 0⟩] 1) : Rw), row (ms) 203 (MC.setIfInBounds 5 (.slice (some ⟨nd11, 0, none⟩) 1 (1 + nd12))), row (nd11) 25 (full refZ [.int .u32 0, .int .u32 1] nd12), row (cr) 25 #[.int .u32 0, .int .u32 0], row (nd5) 211 #[.int .u32 0, .int .u32 1, .bool false, .bool false, .bool false], row (nd4) 71 #[.iface 209 (.pointer (some ⟨nd5, 0, none⟩)), .int .i32 loc, .slice (some ⟨nd6, 0, none⟩) 4 4, .int .i32 0, .int .u8 0, .int .u8 0, .bool false, .bool false], row (nd6) 35 #[.iface 209 (.pointer (some ⟨nd7, 0, none⟩)), .int .i32 loc, .iface 237 (.pointer (some ⟨nd8, 0, none⟩)), .int .i32 loc, .iface kT (.pointer (some ⟨kx, 0, none⟩)), .int .i32 kl, .iface vT (.pointer (some ⟨vx, 0, none⟩)), .int .i32 vl], row (nd7) 211 #[.int .u32 0, .int .u32 0, .bool false, .bool false, .bool false], row (nd8) 241 #[], row (B1_3) 35 #[.nilIface, .int .i32 0], row (B1_2) 35 #[.iface vT (.pointer (some ⟨vx, 0, none⟩)), .int .i32 vl], row (B1_1) 35 #[.iface kT (.pointer (some ⟨kx, 0, none⟩)), .int .i32 kl], row (B1) 31 #[.int .i32 loc]] X := hQ.back HL.out HX.out [0, 1, 2, 3] (by decide) (by decide)
  clear hQ HL HX hO
  have hO := hN
  clear hN
  obtain ⟨c9_5_0, c9_5_1, lt9_5, y9_5, -⟩ := hO.k2 5 rfl
  obtain ⟨c9_6_0, c9_6_1, c9_6_2, c9_6_3, c9_6_4, lt9_6, y9_6, -⟩ := hO.k5 6 rfl
  obtain ⟨c9_7_0, c9_7_1, c9_7_2, c9_7_3, c9_7_4, c9_7_5, c9_7_6, c9_7_7, lt9_7, y9_7, -⟩ := hO.k8 7 rfl
  obtain ⟨c9_8_0, c9_8_1, c9_8_2, c9_8_3, c9_8_4, c9_8_5, c9_8_6, c9_8_7, lt9_8, y9_8, -⟩ := hO.k8 8 rfl
  obtain ⟨c9_9_0, c9_9_1, c9_9_2, c9_9_3, c9_9_4, lt9_9, y9_9, -⟩ := hO.k5 9 rfl
  obtain ⟨lt9_10, y9_10, -⟩ := hO.k0 10 rfl
  obtain ⟨c9_11_0, c9_11_1, lt9_11, y9_11, -⟩ := hO.k2 11 rfl
  obtain ⟨c9_12_0, c9_12_1, lt9_12, y9_12, -⟩ := hO.k2 12 rfl
  obtain ⟨c9_13_0, c9_13_1, lt9_13, y9_13, -⟩ := hO.k2 13 rfl
  obtain ⟨c9_14_0, lt9_14, y9_14, -⟩ := hO.k1 14 rfl
  have HO := Lib.hid hO
  clear hO
  go_wp2_with (first | (with_reducible refine Own.stay (fn := Tryd.f11) ?_) | fail)
  try with_reducible refine Own.Stay.mk ?_
  have hO := HO.out
  clear HO c9_5_0 c9_5_1 lt9_5 y9_5 c9_6_0 c9_6_1 c9_6_2 c9_6_3 c9_6_4 lt9_6 y9_6 c9_7_0 c9_7_1 c9_7_2 c9_7_3 c9_7_4 c9_7_5 c9_7_6 c9_7_7 lt9_7 y9_7 c9_8_0 c9_8_1 c9_8_2 c9_8_3 c9_8_4 c9_8_5 c9_8_6 c9_8_7 lt9_8 y9_8 c9_9_0 c9_9_1 c9_9_2 c9_9_3 c9_9_4 lt9_9 y9_9 lt9_10 y9_10 c9_11_0 c9_11_1 lt9_11 y9_11 c9_12_0 c9_12_1 lt9_12 y9_12 c9_13_0 c9_13_1 lt9_13 y9_13 c9_14_0 lt9_14 y9_14
  generalize hW : World.setCell _ _ _ = W14
  have hN : Own w0 W14 [row (pb) 193 (PC.setIfInBounds 106 (.slice (some ⟨nd9, 0, none⟩) 2 (2 + nd10))), row (nd9) 56 (full symZ (symL ([sy ⟨#[70, 111, 111]⟩ 1, sy ⟨#[95, 95, 115, 117, 112, 101, 114, 83, 101, 116]⟩ 1])) nd10), ((mp, .map #[⟨.string ⟨#[95, 95, 115, 117, 112, 101, 114, 83, 101, 116]⟩, .agg #[.int .i32 loc, .int .u32 0, .int .u32 1], 0⟩] 1) : Rw), row (ms) 203 (MC.setIfInBounds 5 (.slice (some ⟨nd11, 0, none⟩) 1 (1 + nd12))), row (nd11) 25 (full refZ [.int .u32 0, .int .u32 1] nd12), row (cr) 25 #[.int .u32 0, .int .u32 0], row (nd5) 211 #[.int .u32 0, .int .u32 1, .bool false, .bool false, .bool false], row (nd4) 71 #[.iface 209 (.pointer (some ⟨nd5, 0, none⟩)), .int .i32 loc, .slice (some ⟨nd6, 0, none⟩) 4 4, .int .i32 0, .int .u8 0, .int .u8 0, .bool false, .bool false], row (nd6) 35 #[.iface 209 (.pointer (some ⟨nd7, 0, none⟩)), .int .i32 loc, .iface 237 (.pointer (some ⟨nd8, 0, none⟩)), .int .i32 loc, .iface kT (.pointer (some ⟨kx, 0, none⟩)), .int .i32 kl, .iface vT (.pointer (some ⟨vx, 0, none⟩)), .int .i32 vl], row (nd7) 211 #[.int .u32 0, .int .u32 0, .bool false, .bool false, .bool false], row (nd8) 241 #[], row (B1_3) 35 #[.iface 65 (.pointer (some ⟨nd4, 0, none⟩)), .int .i32 loc], row (B1_2) 35 #[.iface vT (.pointer (some ⟨vx, 0, none⟩)), .int .i32 vl], row (B1_1) 35 #[.iface kT (.pointer (some ⟨kx, 0, none⟩)), .int .i32 kl], row (B1) 31 #[.int .i32 loc]] X := by
    rw [← hW]
    exact ((hO).set 11 rfl 0 _).set 11 rfl 1 _
  clear hW hO
  have hO := hN
  clear hN
  have z9_11_0 : W14.cell? ⟨B1_3, 0, none⟩ = some (.iface 65 (.pointer (some ⟨nd4, 0, none⟩))) := hO.cell 11 rfl 0 rfl
  have z9_11_1 : W14.cell? ⟨B1_3, 1, none⟩ = some (.int .i32 loc) := hO.cell 11 rfl 1 rfl
  refine bodyPost_ret (v := .agg #[.iface 65 (.pointer (some ⟨nd4, 0, none⟩)), .int .i32 loc]) ?_ rfl ⟨nd4, nd5, nd6, nd7, nd8, nd9, nd10, nd11, nd12, rfl, hO.sub [0, 1, 2, 3, 4, 5, 6, 7, 8, 9, 10] (by decide)⟩
  simp [results, Tryd.results11, go_sem, z9_11_0, z9_11_1]
end Go.Proofs.YtkhmjppfogppoaaDoor.Use
