/- Several texts in one. No condition. -/
import Derived.Test.YtghofdhhhbbaaaaGreatDoorVl
import Derived.Test.YtghofdhhhbbaaaaGreatDoorWdh
import Derived.Test.YtghofdhhhbbaaaaGreatDoorGtR00
import Derived.Test.YtghofdhhhbbaaaaGreatDoorGtR11
import Derived.Test.YtghofdhhhbbaaaaGreatDoorVio11
import Derived.Test.YtghofdhhhbbaaaaGreatDoorVit
import Derived.Test.YtghofdhhhbbaaaaGreatDoorRst11
import Derived.Test.YtghofdhhhbbaaaaGreatDoorRsth
import Derived.Test.YtghofdhhhbbaaaaGreatDoorLiveG
import Derived.Test.YtghofdhhhbbaaaaGreatDoorAsg
import Derived.Test.YtghofdhhhbbaaaaGreatDoorIts
import Derived.Test.YtghofdhhhbbaaaaGreatDoorIfm
import Derived.Test.YtghofdhhhbbaaaaGreatDoorSla
import Derived.Test.YtghofdhhhbbaaaaGreatDoorLoop
import Derived.Test.YtghofdhhhbbaaaaGreatDoorMini
import Derived.Test.YtghofdhhhbbaaaaGreatDoorAppL
import Derived.Test.YtghofdhhhbbaaaaGreatDoorApp
import Derived.Test.YtghofdhhhbbaaaaGreatDoorOwnK
import Derived.Test.YtghofdhhhbbaaaaGreatDoorOwn
import Derived.Test.YtghofdhhhbbaaaaGreatDoorDeepCells
import Derived.Test.YtghofdhhhbbaaaaGreatDoorRows
import Derived.Test.YtghofdhhhbbaaaaGreatDoorLive
namespace Go.Proofs.YtghofdhhhbbaaaaGreatDoor.Use
open Go.ChangeShapes Go.WideShapes Go.ChangeAt Go.RowKit Go.Sort Own
set_option linter.unusedVariables false
def split0Post (pb : Nat) (PC : Array Value) (sb c : Nat) (st : List Sy) (n : Nat) (src : Int) (i mp : Nat) (es : Array MapEntry) (k ms : Nat) (MC : Array Value) (xp xd xa xv xm xs xr xo xc eb : Nat) (wa : Int) (ab ib ci : Nat) (IL : List Value) (mm ob pr cp vb mb jb cj : Nat) (JL : List Value) (vi : Nat) (li : Int) (w0 : World) (X : Nat → Obj → Prop) (e : Ending) (w' : World) : Prop :=
  ∃ sb2 : Nat, ∃ c2 : Nat, ∃ qb2 : Nat, ∃ cq2 : Nat, ∃ gb2 : Nat, ∃ cg2 : Nat, ∃ xn : Nat, ∃ b1 : Nat, ∃ b2 : Nat, e = .returned (.tuple #[]) ∧ Own w0 w' [row (xp) 22 #[.pointer (some ⟨pb, 0, none⟩)], row (xd) 214 #[.int .u8 0], row (xa) 210 #[.func (Fn.func 25) #[] #[.pointer (some ⟨eb, 0, none⟩)]], row (xv) 247 #[.func (Fn.func 45) #[] #[.pointer (some ⟨xm, 0, none⟩), .pointer (some ⟨xs, 0, none⟩), .pointer (some ⟨xr, 0, none⟩), .pointer (some ⟨xp, 0, none⟩), .pointer (some ⟨xo, 0, none⟩), .pointer (some ⟨xa, 0, none⟩)]], row (xm) 246 #[.map (some mb)], row (xr) 251 #[.func (Fn.func 42) #[] #[.pointer (some ⟨xc, 0, none⟩), .pointer (some ⟨xa, 0, none⟩), .pointer (some ⟨xp, 0, none⟩)]], ((mb, .map (imA [(202, ob), (205, ab)]) 2) : Rw), row (eb) 29 #[.iface 241 (.pointer (some ⟨xn, 0, none⟩)), .int .i32 0], row (ib) 29 (full exZ (iW 0 IL mm b1 b2) ci), row (jb) 29 (full exZ JL cj), row (ob) 204 #[.slice (some ⟨pr, 0, none⟩) 1 (1 + cp), .int .i32 0, .int .i32 0, .bool false, .bool false], row (pr) 52 (full prZ [.pointer none, .nilIface, .int .i32 0, .iface 56 (.pointer (some ⟨vb, 0, none⟩)), .int .i32 0, .nilIface, .int .i32 0, .slice none 0 0, .int .i32 0, .int .i32 0, .int .u8 5, .int .u8 0] cp), row (pb) 182 (pcW PC i n 0 sb2 c2 qb2 cq2), row (sb2) 201 (full symZ (symL (stW 0 i n st)) c2), ((mp, .map (es.push ⟨.string ⟨#[95, 95, 111, 98, 106, 82, 101, 115, 116]⟩, .agg #[.int .i32 0, .int .u32 src, .int .u32 ((n + 1 + 0 : Nat) : Int)], k⟩) (k + 1)) : Rw), row (ms) 194 (MC.setIfInBounds 5 (.slice (some ⟨gb2, 0, none⟩) (2 + 0) (2 + 0 + cg2))), row (gb2) 58 (full refZ (gW 0 src n) cg2), row (qb2) 295 (full trfZ (qW 0 src n) cq2)] X
set_option maxRecDepth 100000 in
set_option maxHeartbeats 4000000 in
theorem split0 (pb : Nat) (PC : Array Value) (sb c : Nat) (st : List Sy) (n : Nat) (src : Int) (i mp : Nat) (es : Array MapEntry) (k ms : Nat) (MC : Array Value) (xp xd xa xv xm xs xr xo xc eb : Nat) (wa : Int) (ab ib ci : Nat) (IL : List Value) (mm ob pr cp vb mb jb cj : Nat) (JL : List Value) (vi : Nat) (li : Int) (w0 w : World) (X : Nat → Obj → Prop) (hO : Own w0 w [row (xp) 22 #[.pointer (some ⟨pb, 0, none⟩)], row (xd) 214 #[.int .u8 0], row (xa) 210 #[.func (Fn.func 25) #[] #[.pointer (some ⟨eb, 0, none⟩)]], row (xv) 247 #[.func (Fn.func 45) #[] #[.pointer (some ⟨xm, 0, none⟩), .pointer (some ⟨xs, 0, none⟩), .pointer (some ⟨xr, 0, none⟩), .pointer (some ⟨xp, 0, none⟩), .pointer (some ⟨xo, 0, none⟩), .pointer (some ⟨xa, 0, none⟩)]], row (xm) 246 #[.map (some mb)], row (xr) 251 #[.func (Fn.func 42) #[] #[.pointer (some ⟨xc, 0, none⟩), .pointer (some ⟨xa, 0, none⟩), .pointer (some ⟨xp, 0, none⟩)]], ((mb, .map (imA [(202, ob), (205, ab)]) 2) : Rw), row (eb) 29 #[.nilIface, .int .i32 wa], row (ib) 29 (full exZ IL ci), row (jb) 29 (full exZ JL cj), row (ob) 204 #[.slice (some ⟨pr, 0, none⟩) 1 (1 + cp), .int .i32 0, .int .i32 0, .bool false, .bool false], row (pr) 52 (full prZ [.pointer none, .nilIface, .int .i32 0, .iface 56 (.pointer (some ⟨vb, 0, none⟩)), .int .i32 0, .nilIface, .int .i32 0, .slice none 0 0, .int .i32 0, .int .i32 0, .int .u8 5, .int .u8 0] cp), row (pb) 182 PC, row (sb) 201 (full symZ (symL st) c), ((mp, .map es k) : Rw), row (ms) 194 MC] X) (hk350 : PC[350]? = some (.bool false)) (hk32 : PC[32]? = some (.bool false)) (hk105 : PC[105]? = some (.pointer none)) (hk66 : PC[66]? = some (.int .u32 src)) (hk117 : PC[117]? = some (.map (some mp))) (hk187 : PC[187]? = some (.pointer (some ⟨ms, 0, none⟩))) (hk104 : PC[104]? = some (.pointer (some ⟨ms, 0, none⟩))) (hkind : MC[15]? = some (.int .u8 6)) (hk287 : PC[287]? = some (.int .i64 (i : Int))) (hk199 : PC[199]? = some (.slice none 0 0)) (hgen : MC[5]? = some (.slice none 0 0)) (hk106 : PC[106]? = some (.slice (some ⟨sb, 0, none⟩) n (n + c))) (hn : st.length = n) (hnb : n ≤ 1000000) (hi : i ≤ 1000) (hub : UcB st 1000) (hno : Instr.findNow .string (.string ⟨#[95, 95, 111, 98, 106, 82, 101, 115, 116]⟩) es.toList 0 = some none) (hg0 : w0.cell? ⟨0, 0, none⟩ = some (.int .u32 4294967295)) (hg1 : w0.cell? ⟨0, 1, none⟩ = some (.int .u32 4294967295)) (hlen : IL.length = (mm + 1 + 0) * 2) (hJ : ItA JL 0 0) (hJl : JL.length = 0 * 2) (hm4 : mm ≤ 4096) :
    Calls Tryz.prog 43 #[.slice (some ⟨ib, 0, none⟩) mm (mm + 1 + 0 + ci), .agg #[.iface 202 (.pointer (some ⟨ob, 0, none⟩)), .int .i32 0], .slice (some ⟨jb, 0, none⟩) 0 (0 + cj), .agg #[.iface 56 (.pointer (some ⟨vi, 0, none⟩)), .int .i32 li], .bool false, .pointer (some ⟨xp, 0, none⟩), .pointer (some ⟨xd, 0, none⟩), .pointer (some ⟨xa, 0, none⟩), .pointer (some ⟨xv, 0, none⟩)] w (split0Post pb PC sb c st n src i mp es k ms MC xp xd xa xv xm xs xr xo xc eb wa ab ib ci IL mm ob pr cp vb mb jb cj JL vi li w0 X) := by
  go_enter Tryz.func43, Tryz.ntmps43
  have HJ := Lib.hid hJ
  have HUB := Lib.hid hub
  clear hJ hub
  obtain ⟨c9_0_0, lt9_0, y9_0, -⟩ := hO.k1 0 rfl
  obtain ⟨c9_1_0, lt9_1, y9_1, -⟩ := hO.k1 1 rfl
  obtain ⟨c9_2_0, lt9_2, y9_2, -⟩ := hO.k1 2 rfl
  obtain ⟨c9_3_0, lt9_3, y9_3, -⟩ := hO.k1 3 rfl
  obtain ⟨c9_4_0, lt9_4, y9_4, -⟩ := hO.k1 4 rfl
  obtain ⟨c9_5_0, lt9_5, y9_5, -⟩ := hO.k1 5 rfl
  obtain ⟨c9_7_0, c9_7_1, lt9_7, y9_7, -⟩ := hO.k2 7 rfl
  obtain ⟨c9_10_0, c9_10_1, c9_10_2, c9_10_3, c9_10_4, lt9_10, y9_10, -⟩ := hO.k5 10 rfl
  have HO := Lib.hid hO
  clear hO
  go_wp2_with (first | (with_reducible refine Own.stay (fn := Tryz.f43) ?_) | (at_builtin; refine Own.appStop ?_) | fail)
  try with_reducible refine Own.Stay.mk ?_
  have hO := HO.out
  clear HO c9_0_0 lt9_0 y9_0 c9_1_0 lt9_1 y9_1 c9_2_0 lt9_2 y9_2 c9_3_0 lt9_3 y9_3 c9_4_0 lt9_4 y9_4 c9_5_0 lt9_5 y9_5 c9_7_0 c9_7_1 lt9_7 y9_7 c9_10_0 c9_10_1 c9_10_2 c9_10_3 c9_10_4 lt9_10 y9_10
  generalize hW : World.alloc _ _ = W2
  have hN : Own w0 W2 [row (w.heap.size + 1) 29 #[.iface 56 (.pointer (some ⟨vi, 0, none⟩)), .int .i32 li], row (w.heap.size) 29 #[.iface 202 (.pointer (some ⟨ob, 0, none⟩)), .int .i32 0], row (xp) 22 #[.pointer (some ⟨pb, 0, none⟩)], row (xd) 214 #[.int .u8 0], row (xa) 210 #[.func (Fn.func 25) #[] #[.pointer (some ⟨eb, 0, none⟩)]], row (xv) 247 #[.func (Fn.func 45) #[] #[.pointer (some ⟨xm, 0, none⟩), .pointer (some ⟨xs, 0, none⟩), .pointer (some ⟨xr, 0, none⟩), .pointer (some ⟨xp, 0, none⟩), .pointer (some ⟨xo, 0, none⟩), .pointer (some ⟨xa, 0, none⟩)]], row (xm) 246 #[.map (some mb)], row (xr) 251 #[.func (Fn.func 42) #[] #[.pointer (some ⟨xc, 0, none⟩), .pointer (some ⟨xa, 0, none⟩), .pointer (some ⟨xp, 0, none⟩)]], ((mb, .map (imA [(202, ob), (205, ab)]) 2) : Rw), row (eb) 29 #[.nilIface, .int .i32 wa], row (ib) 29 (full exZ IL ci), row (jb) 29 (full exZ JL cj), row (ob) 204 #[.slice (some ⟨pr, 0, none⟩) 1 (1 + cp), .int .i32 0, .int .i32 0, .bool false, .bool false], row (pr) 52 (full prZ [.pointer none, .nilIface, .int .i32 0, .iface 56 (.pointer (some ⟨vb, 0, none⟩)), .int .i32 0, .nilIface, .int .i32 0, .slice none 0 0, .int .i32 0, .int .i32 0, .int .u8 5, .int .u8 0] cp), row (pb) 182 PC, row (sb) 201 (full symZ (symL st) c), ((mp, .map es k) : Rw), row (ms) 194 MC] X := by
    rw [← hW]
    exact ((hO).alloc' _ (w.heap.size) (by simp)).alloc' _ (w.heap.size + 1) (by simp)
  clear hW hO
  generalize w.heap.size + 1 = B1_1 at hN ⊢
  generalize w.heap.size = B1 at hN ⊢
  have hO := hN
  clear hN
  have hL := hO.apart
  have hX := hO.apartX
  have HL := Lib.hid hL
  have HX := Lib.hid hX
  clear hL hX
  have hP9 := hO.pick [14, 15, 17] (by decide)
  have h9_hnb : n ≤ 2000000 := (by omega)
  have h9_hi : i ≤ 100000 := (by omega)
  have T9 := gtR00 pb PC sb c st n src i ms MC _ _ _ hP9 hk66 hk32 hk106 hn h9_hnb hk104 hkind hk287 hk199 hgen h9_hi hg0 hg1
  refine Calls.mono T9 ?_
  clear hP9 T9 h9_hnb h9_hi
  rintro e uw3 ⟨nd4, nd5, nd6, nd7, nd8, nd9, rfl, hQ⟩
  have hN : Own w0 uw3 [row (pb) 182 (((PC.setIfInBounds 287 (.int .i64 ((i : Int) + 1))).setIfInBounds 106 (.slice (some ⟨nd4, 0, none⟩) (n + 1) (n + 1 + nd5))).setIfInBounds 199 (.slice (some ⟨nd6, 0, none⟩) 1 (1 + nd7))), row (nd4) 201 (full symZ (symL (st ++ [syk (tn i) 27])) nd5), row (ms) 194 (MC.setIfInBounds 5 (.slice (some ⟨nd8, 0, none⟩) 1 (1 + nd9))), row (nd6) 295 (full trfZ [.nilIface, .int .i32 0, .int .u32 src, .int .u32 (n : Int)] nd7), row (nd8) 58 (full refZ [.int .u32 src, .int .u32 (n : Int)] nd9), row (B1_1) 29 #[.iface 56 (.pointer (some ⟨vi, 0, none⟩)), .int .i32 li], row (B1) 29 #[.iface 202 (.pointer (some ⟨ob, 0, none⟩)), .int .i32 0], row (xp) 22 #[.pointer (some ⟨pb, 0, none⟩)], row (xd) 214 #[.int .u8 0], row (xa) 210 #[.func (Fn.func 25) #[] #[.pointer (some ⟨eb, 0, none⟩)]], row (xv) 247 #[.func (Fn.func 45) #[] #[.pointer (some ⟨xm, 0, none⟩), .pointer (some ⟨xs, 0, none⟩), .pointer (some ⟨xr, 0, none⟩), .pointer (some ⟨xp, 0, none⟩), .pointer (some ⟨xo, 0, none⟩), .pointer (some ⟨xa, 0, none⟩)]], row (xm) 246 #[.map (some mb)], row (xr) 251 #[.func (Fn.func 42) #[] #[.pointer (some ⟨xc, 0, none⟩), .pointer (some ⟨xa, 0, none⟩), .pointer (some ⟨xp, 0, none⟩)]], ((mb, .map (imA [(202, ob), (205, ab)]) 2) : Rw), row (eb) 29 #[.nilIface, .int .i32 wa], row (ib) 29 (full exZ IL ci), row (jb) 29 (full exZ JL cj), row (ob) 204 #[.slice (some ⟨pr, 0, none⟩) 1 (1 + cp), .int .i32 0, .int .i32 0, .bool false, .bool false], row (pr) 52 (full prZ [.pointer none, .nilIface, .int .i32 0, .iface 56 (.pointer (some ⟨vb, 0, none⟩)), .int .i32 0, .nilIface, .int .i32 0, .slice none 0 0, .int .i32 0, .int .i32 0, .int .u8 5, .int .u8 0] cp), ((mp, .map es k) : Rw)] X := hQ.back HL.out HX.out [0, 1, 2, 3, 4, 5, 6, 7, 8, 9, 10, 11, 12, 13, 16] (by decide) (by decide)
  clear hQ HL HX hO
  have hO := hN
  clear hN
  obtain ⟨c9_5_0, c9_5_1, lt9_5, y9_5, -⟩ := hO.k2 5 rfl
  obtain ⟨c9_6_0, c9_6_1, lt9_6, y9_6, -⟩ := hO.k2 6 rfl
  obtain ⟨c9_7_0, lt9_7, y9_7, -⟩ := hO.k1 7 rfl
  obtain ⟨c9_8_0, lt9_8, y9_8, -⟩ := hO.k1 8 rfl
  obtain ⟨c9_9_0, lt9_9, y9_9, -⟩ := hO.k1 9 rfl
  obtain ⟨c9_10_0, lt9_10, y9_10, -⟩ := hO.k1 10 rfl
  obtain ⟨c9_11_0, lt9_11, y9_11, -⟩ := hO.k1 11 rfl
  obtain ⟨c9_12_0, lt9_12, y9_12, -⟩ := hO.k1 12 rfl
  obtain ⟨c9_14_0, c9_14_1, lt9_14, y9_14, -⟩ := hO.k2 14 rfl
  obtain ⟨c9_17_0, c9_17_1, c9_17_2, c9_17_3, c9_17_4, lt9_17, y9_17, -⟩ := hO.k5 17 rfl
  have HO := Lib.hid hO
  clear hO
  go_wp2_with (first | (with_reducible refine Own.stay (fn := Tryz.f43) ?_) | (at_builtin; refine Own.appStop ?_) | fail)
  try with_reducible refine Own.Stay.mk ?_
  have hO := HO.out
  clear HO c9_5_0 c9_5_1 lt9_5 y9_5 c9_6_0 c9_6_1 lt9_6 y9_6 c9_7_0 lt9_7 y9_7 c9_8_0 lt9_8 y9_8 c9_9_0 lt9_9 y9_9 c9_10_0 lt9_10 y9_10 c9_11_0 lt9_11 y9_11 c9_12_0 lt9_12 y9_12 c9_14_0 c9_14_1 lt9_14 y9_14 c9_17_0 c9_17_1 c9_17_2 c9_17_3 c9_17_4 lt9_17 y9_17
  generalize hW : World.alloc _ _ = W11
  have hN : Own w0 W11 [row (uw3.heap.size + 1 + 1 + 1) 29 #[.iface 56 (.pointer (some ⟨uw3.heap.size + 1 + 1, 0, none⟩)), .int .i32 0], row (uw3.heap.size + 1 + 1) 60 #[.int .u32 src, .int .u32 (n : Int), .bool false, .bool false, .bool false], row (uw3.heap.size + 1) 29 #[.iface 202 (.pointer (some ⟨ob, 0, none⟩)), .int .i32 0], row (uw3.heap.size) 58 #[.int .u32 src, .int .u32 (n : Int)], row (pb) 182 (((PC.setIfInBounds 287 (.int .i64 ((i : Int) + 1))).setIfInBounds 106 (.slice (some ⟨nd4, 0, none⟩) (n + 1) (n + 1 + nd5))).setIfInBounds 199 (.slice (some ⟨nd6, 0, none⟩) 1 (1 + nd7))), row (nd4) 201 (full symZ (symL (st ++ [syk (tn i) 27])) nd5), row (ms) 194 (MC.setIfInBounds 5 (.slice (some ⟨nd8, 0, none⟩) 1 (1 + nd9))), row (nd6) 295 (full trfZ [.nilIface, .int .i32 0, .int .u32 src, .int .u32 (n : Int)] nd7), row (nd8) 58 (full refZ [.int .u32 src, .int .u32 (n : Int)] nd9), row (B1_1) 29 #[.iface 56 (.pointer (some ⟨vi, 0, none⟩)), .int .i32 li], row (B1) 29 #[.iface 56 (.pointer (some ⟨uw3.heap.size + 1 + 1, 0, none⟩)), .int .i32 0], row (xp) 22 #[.pointer (some ⟨pb, 0, none⟩)], row (xd) 214 #[.int .u8 0], row (xa) 210 #[.func (Fn.func 25) #[] #[.pointer (some ⟨eb, 0, none⟩)]], row (xv) 247 #[.func (Fn.func 45) #[] #[.pointer (some ⟨xm, 0, none⟩), .pointer (some ⟨xs, 0, none⟩), .pointer (some ⟨xr, 0, none⟩), .pointer (some ⟨xp, 0, none⟩), .pointer (some ⟨xo, 0, none⟩), .pointer (some ⟨xa, 0, none⟩)]], row (xm) 246 #[.map (some mb)], row (xr) 251 #[.func (Fn.func 42) #[] #[.pointer (some ⟨xc, 0, none⟩), .pointer (some ⟨xa, 0, none⟩), .pointer (some ⟨xp, 0, none⟩)]], ((mb, .map (imA [(202, ob), (205, ab)]) 2) : Rw), row (eb) 29 #[.nilIface, .int .i32 wa], row (ib) 29 (full exZ IL ci), row (jb) 29 (full exZ JL cj), row (ob) 204 #[.slice (some ⟨pr, 0, none⟩) 1 (1 + cp), .int .i32 0, .int .i32 0, .bool false, .bool false], row (pr) 52 (full prZ [.pointer none, .nilIface, .int .i32 0, .iface 56 (.pointer (some ⟨vb, 0, none⟩)), .int .i32 0, .nilIface, .int .i32 0, .slice none 0 0, .int .i32 0, .int .i32 0, .int .u8 5, .int .u8 0] cp), ((mp, .map es k) : Rw)] X := by
    rw [← hW]
    exact (((((hO).alloc' _ (uw3.heap.size) (by simp)).alloc' _ (uw3.heap.size + 1) (by simp)).alloc' _ (uw3.heap.size + 1 + 1) (by simp)).set 9 rfl 0 _).alloc' _ (uw3.heap.size + 1 + 1 + 1) (by simp)
  clear hW hO
  generalize uw3.heap.size + 1 + 1 + 1 = B10_3 at hN ⊢
  generalize uw3.heap.size + 1 + 1 = B10_2 at hN ⊢
  generalize uw3.heap.size + 1 = B10_1 at hN ⊢
  generalize uw3.heap.size = B10 at hN ⊢
  have hO := hN
  clear hN
  refine Own.AppStop.mk ?_
  obtain ⟨i9, hi9, z1, z2, z3⟩ := info_parts infoEx
  have hL := hO.apart
  have hX := hO.apartX
  have HL := Lib.hid hL
  have HX := Lib.hid hX
  clear hL hX
  have hP9 := hO.pick [19, 0] (by decide)
  refine Own.wpList_append_in rfl (.tmp 56) (.tmp 58) 45 rfl 29 i9 (.agg exZ) 2 24 Tryz.underlying45 hi9 z1 z2 hP9 rfl rfl (by show mm * 2 + 2 ≤ _; omega) (by omega) rfl (oneAll rfl) ?_
  intro uw12 hQ
  clear hP9
  have hN : Own w0 uw12 [row (ib) 29 (full exZ (putE IL mm [.iface 56 (.pointer (some ⟨B10_2, 0, none⟩)), .int .i32 0]) ci), row (B10_3) 29 #[.iface 56 (.pointer (some ⟨B10_2, 0, none⟩)), .int .i32 0], row (B10_2) 60 #[.int .u32 src, .int .u32 (n : Int), .bool false, .bool false, .bool false], row (B10_1) 29 #[.iface 202 (.pointer (some ⟨ob, 0, none⟩)), .int .i32 0], row (B10) 58 #[.int .u32 src, .int .u32 (n : Int)], row (pb) 182 (((PC.setIfInBounds 287 (.int .i64 ((i : Int) + 1))).setIfInBounds 106 (.slice (some ⟨nd4, 0, none⟩) (n + 1) (n + 1 + nd5))).setIfInBounds 199 (.slice (some ⟨nd6, 0, none⟩) 1 (1 + nd7))), row (nd4) 201 (full symZ (symL (st ++ [syk (tn i) 27])) nd5), row (ms) 194 (MC.setIfInBounds 5 (.slice (some ⟨nd8, 0, none⟩) 1 (1 + nd9))), row (nd6) 295 (full trfZ [.nilIface, .int .i32 0, .int .u32 src, .int .u32 (n : Int)] nd7), row (nd8) 58 (full refZ [.int .u32 src, .int .u32 (n : Int)] nd9), row (B1_1) 29 #[.iface 56 (.pointer (some ⟨vi, 0, none⟩)), .int .i32 li], row (B1) 29 #[.iface 56 (.pointer (some ⟨B10_2, 0, none⟩)), .int .i32 0], row (xp) 22 #[.pointer (some ⟨pb, 0, none⟩)], row (xd) 214 #[.int .u8 0], row (xa) 210 #[.func (Fn.func 25) #[] #[.pointer (some ⟨eb, 0, none⟩)]], row (xv) 247 #[.func (Fn.func 45) #[] #[.pointer (some ⟨xm, 0, none⟩), .pointer (some ⟨xs, 0, none⟩), .pointer (some ⟨xr, 0, none⟩), .pointer (some ⟨xp, 0, none⟩), .pointer (some ⟨xo, 0, none⟩), .pointer (some ⟨xa, 0, none⟩)]], row (xm) 246 #[.map (some mb)], row (xr) 251 #[.func (Fn.func 42) #[] #[.pointer (some ⟨xc, 0, none⟩), .pointer (some ⟨xa, 0, none⟩), .pointer (some ⟨xp, 0, none⟩)]], ((mb, .map (imA [(202, ob), (205, ab)]) 2) : Rw), row (eb) 29 #[.nilIface, .int .i32 wa], row (jb) 29 (full exZ JL cj), row (ob) 204 #[.slice (some ⟨pr, 0, none⟩) 1 (1 + cp), .int .i32 0, .int .i32 0, .bool false, .bool false], row (pr) 52 (full prZ [.pointer none, .nilIface, .int .i32 0, .iface 56 (.pointer (some ⟨vb, 0, none⟩)), .int .i32 0, .nilIface, .int .i32 0, .slice none 0 0, .int .i32 0, .int .i32 0, .int .u8 5, .int .u8 0] cp), ((mp, .map es k) : Rw)] X := hQ.back HL.out HX.out [1, 2, 3, 4, 5, 6, 7, 8, 9, 10, 11, 12, 13, 14, 15, 16, 17, 18, 20, 21, 22, 23] (by decide) (by decide)
  clear hQ HL HX hO
  have hO := hN
  clear hN
  obtain ⟨c9_1_0, c9_1_1, lt9_1, y9_1, -⟩ := hO.k2 1 rfl
  obtain ⟨c9_2_0, c9_2_1, c9_2_2, c9_2_3, c9_2_4, lt9_2, y9_2, -⟩ := hO.k5 2 rfl
  obtain ⟨c9_3_0, c9_3_1, lt9_3, y9_3, -⟩ := hO.k2 3 rfl
  obtain ⟨c9_4_0, c9_4_1, lt9_4, y9_4, -⟩ := hO.k2 4 rfl
  obtain ⟨c9_10_0, c9_10_1, lt9_10, y9_10, -⟩ := hO.k2 10 rfl
  obtain ⟨c9_11_0, c9_11_1, lt9_11, y9_11, -⟩ := hO.k2 11 rfl
  obtain ⟨c9_12_0, lt9_12, y9_12, -⟩ := hO.k1 12 rfl
  obtain ⟨c9_13_0, lt9_13, y9_13, -⟩ := hO.k1 13 rfl
  obtain ⟨c9_14_0, lt9_14, y9_14, -⟩ := hO.k1 14 rfl
  obtain ⟨c9_15_0, lt9_15, y9_15, -⟩ := hO.k1 15 rfl
  obtain ⟨c9_16_0, lt9_16, y9_16, -⟩ := hO.k1 16 rfl
  obtain ⟨c9_17_0, lt9_17, y9_17, -⟩ := hO.k1 17 rfl
  obtain ⟨c9_19_0, c9_19_1, lt9_19, y9_19, -⟩ := hO.k2 19 rfl
  obtain ⟨c9_21_0, c9_21_1, c9_21_2, c9_21_3, c9_21_4, lt9_21, y9_21, -⟩ := hO.k5 21 rfl
  have HO := Lib.hid hO
  clear hO
  go_wp2_with (first | (with_reducible refine Own.stay (fn := Tryz.f43) ?_) | (at_builtin; refine Own.appStop ?_) | fail)
  try with_reducible refine Own.Stay.mk ?_
  have hO := HO.out
  clear HO c9_1_0 c9_1_1 lt9_1 y9_1 c9_2_0 c9_2_1 c9_2_2 c9_2_3 c9_2_4 lt9_2 y9_2 c9_3_0 c9_3_1 lt9_3 y9_3 c9_4_0 c9_4_1 lt9_4 y9_4 c9_10_0 c9_10_1 lt9_10 y9_10 c9_11_0 c9_11_1 lt9_11 y9_11 c9_12_0 lt9_12 y9_12 c9_13_0 lt9_13 y9_13 c9_14_0 lt9_14 y9_14 c9_15_0 lt9_15 y9_15 c9_16_0 lt9_16 y9_16 c9_17_0 lt9_17 y9_17 c9_19_0 c9_19_1 lt9_19 y9_19 c9_21_0 c9_21_1 c9_21_2 c9_21_3 c9_21_4 lt9_21 y9_21
  generalize hW : World.alloc _ _ = W14
  have hN : Own w0 W14 [row (uw12.heap.size + 1 + 1) 207 #[.slice (some ⟨ib, 0, none⟩) (mm + 1) (mm + 1 + ci), .int .i32 0, .int .i32 0, .bool false, .bool false], row (uw12.heap.size + 1) 29 #[.nilIface, .int .i32 0], row (uw12.heap.size) 29 #[.nilIface, .int .i32 0], row (ib) 29 (full exZ (putE IL mm [.iface 56 (.pointer (some ⟨B10_2, 0, none⟩)), .int .i32 0]) ci), row (B10_3) 29 #[.iface 56 (.pointer (some ⟨B10_2, 0, none⟩)), .int .i32 0], row (B10_2) 60 #[.int .u32 src, .int .u32 (n : Int), .bool false, .bool false, .bool false], row (B10_1) 29 #[.iface 202 (.pointer (some ⟨ob, 0, none⟩)), .int .i32 0], row (B10) 58 #[.int .u32 src, .int .u32 (n : Int)], row (pb) 182 (((PC.setIfInBounds 287 (.int .i64 ((i : Int) + 1))).setIfInBounds 106 (.slice (some ⟨nd4, 0, none⟩) (n + 1) (n + 1 + nd5))).setIfInBounds 199 (.slice (some ⟨nd6, 0, none⟩) 1 (1 + nd7))), row (nd4) 201 (full symZ (symL (st ++ [syk (tn i) 27])) nd5), row (ms) 194 (MC.setIfInBounds 5 (.slice (some ⟨nd8, 0, none⟩) 1 (1 + nd9))), row (nd6) 295 (full trfZ [.nilIface, .int .i32 0, .int .u32 src, .int .u32 (n : Int)] nd7), row (nd8) 58 (full refZ [.int .u32 src, .int .u32 (n : Int)] nd9), row (B1_1) 29 #[.iface 56 (.pointer (some ⟨vi, 0, none⟩)), .int .i32 li], row (B1) 29 #[.iface 56 (.pointer (some ⟨B10_2, 0, none⟩)), .int .i32 0], row (xp) 22 #[.pointer (some ⟨pb, 0, none⟩)], row (xd) 214 #[.int .u8 0], row (xa) 210 #[.func (Fn.func 25) #[] #[.pointer (some ⟨eb, 0, none⟩)]], row (xv) 247 #[.func (Fn.func 45) #[] #[.pointer (some ⟨xm, 0, none⟩), .pointer (some ⟨xs, 0, none⟩), .pointer (some ⟨xr, 0, none⟩), .pointer (some ⟨xp, 0, none⟩), .pointer (some ⟨xo, 0, none⟩), .pointer (some ⟨xa, 0, none⟩)]], row (xm) 246 #[.map (some mb)], row (xr) 251 #[.func (Fn.func 42) #[] #[.pointer (some ⟨xc, 0, none⟩), .pointer (some ⟨xa, 0, none⟩), .pointer (some ⟨xp, 0, none⟩)]], ((mb, .map (imA [(202, ob), (205, ab)]) 2) : Rw), row (eb) 29 #[.nilIface, .int .i32 wa], row (jb) 29 (full exZ JL cj), row (ob) 204 #[.slice (some ⟨pr, 0, none⟩) 1 (1 + cp), .int .i32 0, .int .i32 0, .bool false, .bool false], row (pr) 52 (full prZ [.pointer none, .nilIface, .int .i32 0, .iface 56 (.pointer (some ⟨vb, 0, none⟩)), .int .i32 0, .nilIface, .int .i32 0, .slice none 0 0, .int .i32 0, .int .i32 0, .int .u8 5, .int .u8 0] cp), ((mp, .map es k) : Rw)] X := by
    rw [← hW]
    exact (((hO).alloc' _ (uw12.heap.size) (by simp)).alloc' _ (uw12.heap.size + 1) (by simp)).alloc' _ (uw12.heap.size + 1 + 1) (by simp)
  clear hW hO
  generalize uw12.heap.size + 1 + 1 = B13_2 at hN ⊢
  generalize uw12.heap.size + 1 = B13_1 at hN ⊢
  generalize uw12.heap.size = B13 at hN ⊢
  have hO := hN
  clear hN
  have hN : Own w0 W14 [row (ib) 29 (full exZ (putE IL mm [.iface 56 (.pointer (some ⟨B10_2, 0, none⟩)), .int .i32 0]) ci), row (B10_1) 29 #[.iface 202 (.pointer (some ⟨ob, 0, none⟩)), .int .i32 0], row (B10) 58 #[.int .u32 src, .int .u32 (n : Int)], row (pb) 182 (((PC.setIfInBounds 287 (.int .i64 ((i : Int) + 1))).setIfInBounds 106 (.slice (some ⟨nd4, 0, none⟩) (n + 1) (n + 1 + nd5))).setIfInBounds 199 (.slice (some ⟨nd6, 0, none⟩) 1 (1 + nd7))), row (nd4) 201 (full symZ (symL (st ++ [syk (tn i) 27])) nd5), row (ms) 194 (MC.setIfInBounds 5 (.slice (some ⟨nd8, 0, none⟩) 1 (1 + nd9))), row (nd6) 295 (full trfZ [.nilIface, .int .i32 0, .int .u32 src, .int .u32 (n : Int)] nd7), row (nd8) 58 (full refZ [.int .u32 src, .int .u32 (n : Int)] nd9), row (B1_1) 29 #[.iface 56 (.pointer (some ⟨vi, 0, none⟩)), .int .i32 li], row (B1) 29 #[.iface 56 (.pointer (some ⟨B10_2, 0, none⟩)), .int .i32 0], row (xp) 22 #[.pointer (some ⟨pb, 0, none⟩)], row (xd) 214 #[.int .u8 0], row (xa) 210 #[.func (Fn.func 25) #[] #[.pointer (some ⟨eb, 0, none⟩)]], row (xv) 247 #[.func (Fn.func 45) #[] #[.pointer (some ⟨xm, 0, none⟩), .pointer (some ⟨xs, 0, none⟩), .pointer (some ⟨xr, 0, none⟩), .pointer (some ⟨xp, 0, none⟩), .pointer (some ⟨xo, 0, none⟩), .pointer (some ⟨xa, 0, none⟩)]], row (xm) 246 #[.map (some mb)], row (xr) 251 #[.func (Fn.func 42) #[] #[.pointer (some ⟨xc, 0, none⟩), .pointer (some ⟨xa, 0, none⟩), .pointer (some ⟨xp, 0, none⟩)]], ((mb, .map (imA [(202, ob), (205, ab)]) 2) : Rw), row (eb) 29 #[.nilIface, .int .i32 wa], row (jb) 29 (full exZ JL cj), row (ob) 204 #[.slice (some ⟨pr, 0, none⟩) 1 (1 + cp), .int .i32 0, .int .i32 0, .bool false, .bool false], row (pr) 52 (full prZ [.pointer none, .nilIface, .int .i32 0, .iface 56 (.pointer (some ⟨vb, 0, none⟩)), .int .i32 0, .nilIface, .int .i32 0, .slice none 0 0, .int .i32 0, .int .i32 0, .int .u8 5, .int .u8 0] cp), ((mp, .map es k) : Rw)] X := hO.sub [3, 6, 7, 8, 9, 10, 11, 12, 13, 14, 15, 16, 17, 18, 19, 20, 21, 22, 23, 24, 25, 26] (by decide)
  clear hO
  have hO := hN
  clear hN
  have hL := hO.apart
  have hX := hO.apartX
  have HL := Lib.hid hL
  have HX := Lib.hid hX
  clear hL hX
  have hP9 := hO.pick [17] (by decide)
  have T9 := asg0 eb wa 205 B13_2 0 56 vi li _ _ _ hP9 
  refine Calls.mono T9 ?_
  clear hP9 T9
  rintro e uw15 ⟨nd16, rfl, hQ⟩
  have hN : Own w0 uw15 [row (eb) 29 #[.iface 241 (.pointer (some ⟨nd16, 0, none⟩)), .int .i32 0], row (ib) 29 (full exZ (putE IL mm [.iface 56 (.pointer (some ⟨B10_2, 0, none⟩)), .int .i32 0]) ci), row (B10_1) 29 #[.iface 202 (.pointer (some ⟨ob, 0, none⟩)), .int .i32 0], row (B10) 58 #[.int .u32 src, .int .u32 (n : Int)], row (pb) 182 (((PC.setIfInBounds 287 (.int .i64 ((i : Int) + 1))).setIfInBounds 106 (.slice (some ⟨nd4, 0, none⟩) (n + 1) (n + 1 + nd5))).setIfInBounds 199 (.slice (some ⟨nd6, 0, none⟩) 1 (1 + nd7))), row (nd4) 201 (full symZ (symL (st ++ [syk (tn i) 27])) nd5), row (ms) 194 (MC.setIfInBounds 5 (.slice (some ⟨nd8, 0, none⟩) 1 (1 + nd9))), row (nd6) 295 (full trfZ [.nilIface, .int .i32 0, .int .u32 src, .int .u32 (n : Int)] nd7), row (nd8) 58 (full refZ [.int .u32 src, .int .u32 (n : Int)] nd9), row (B1_1) 29 #[.iface 56 (.pointer (some ⟨vi, 0, none⟩)), .int .i32 li], row (B1) 29 #[.iface 56 (.pointer (some ⟨B10_2, 0, none⟩)), .int .i32 0], row (xp) 22 #[.pointer (some ⟨pb, 0, none⟩)], row (xd) 214 #[.int .u8 0], row (xa) 210 #[.func (Fn.func 25) #[] #[.pointer (some ⟨eb, 0, none⟩)]], row (xv) 247 #[.func (Fn.func 45) #[] #[.pointer (some ⟨xm, 0, none⟩), .pointer (some ⟨xs, 0, none⟩), .pointer (some ⟨xr, 0, none⟩), .pointer (some ⟨xp, 0, none⟩), .pointer (some ⟨xo, 0, none⟩), .pointer (some ⟨xa, 0, none⟩)]], row (xm) 246 #[.map (some mb)], row (xr) 251 #[.func (Fn.func 42) #[] #[.pointer (some ⟨xc, 0, none⟩), .pointer (some ⟨xa, 0, none⟩), .pointer (some ⟨xp, 0, none⟩)]], ((mb, .map (imA [(202, ob), (205, ab)]) 2) : Rw), row (jb) 29 (full exZ JL cj), row (ob) 204 #[.slice (some ⟨pr, 0, none⟩) 1 (1 + cp), .int .i32 0, .int .i32 0, .bool false, .bool false], row (pr) 52 (full prZ [.pointer none, .nilIface, .int .i32 0, .iface 56 (.pointer (some ⟨vb, 0, none⟩)), .int .i32 0, .nilIface, .int .i32 0, .slice none 0 0, .int .i32 0, .int .i32 0, .int .u8 5, .int .u8 0] cp), ((mp, .map es k) : Rw)] X := hQ.back HL.out HX.out [0, 1, 2, 3, 4, 5, 6, 7, 8, 9, 10, 11, 12, 13, 14, 15, 16, 18, 19, 20, 21] (by decide) (by decide)
  clear hQ HL HX hO
  have hO := hN
  clear hN
  obtain ⟨c9_0_0, c9_0_1, lt9_0, y9_0, -⟩ := hO.k2 0 rfl
  obtain ⟨c9_2_0, c9_2_1, lt9_2, y9_2, -⟩ := hO.k2 2 rfl
  obtain ⟨c9_3_0, c9_3_1, lt9_3, y9_3, -⟩ := hO.k2 3 rfl
  obtain ⟨c9_9_0, c9_9_1, lt9_9, y9_9, -⟩ := hO.k2 9 rfl
  obtain ⟨c9_10_0, c9_10_1, lt9_10, y9_10, -⟩ := hO.k2 10 rfl
  obtain ⟨c9_11_0, lt9_11, y9_11, -⟩ := hO.k1 11 rfl
  obtain ⟨c9_12_0, lt9_12, y9_12, -⟩ := hO.k1 12 rfl
  obtain ⟨c9_13_0, lt9_13, y9_13, -⟩ := hO.k1 13 rfl
  obtain ⟨c9_14_0, lt9_14, y9_14, -⟩ := hO.k1 14 rfl
  obtain ⟨c9_15_0, lt9_15, y9_15, -⟩ := hO.k1 15 rfl
  obtain ⟨c9_16_0, lt9_16, y9_16, -⟩ := hO.k1 16 rfl
  obtain ⟨c9_19_0, c9_19_1, c9_19_2, c9_19_3, c9_19_4, lt9_19, y9_19, -⟩ := hO.k5 19 rfl
  have HO := Lib.hid hO
  clear hO
  go_wp2_with (first | (with_reducible refine Own.stay (fn := Tryz.f43) ?_) | (at_builtin; refine Own.appStop ?_) | fail)
  try with_reducible refine Own.Stay.mk ?_
  have hO := HO.out
  clear HO c9_0_0 c9_0_1 lt9_0 y9_0 c9_2_0 c9_2_1 lt9_2 y9_2 c9_3_0 c9_3_1 lt9_3 y9_3 c9_9_0 c9_9_1 lt9_9 y9_9 c9_10_0 c9_10_1 lt9_10 y9_10 c9_11_0 lt9_11 y9_11 c9_12_0 lt9_12 y9_12 c9_13_0 lt9_13 y9_13 c9_14_0 lt9_14 y9_14 c9_15_0 lt9_15 y9_15 c9_16_0 lt9_16 y9_16 c9_19_0 c9_19_1 c9_19_2 c9_19_3 c9_19_4 lt9_19 y9_19
  generalize hW : World.alloc _ _ = W18
  have hN : Own w0 W18 [row (uw15.heap.size) 60 #[.int .u32 src, .int .u32 (n : Int), .bool false, .bool false, .bool false], row (eb) 29 #[.iface 241 (.pointer (some ⟨nd16, 0, none⟩)), .int .i32 0], row (ib) 29 (full exZ (putE IL mm [.iface 56 (.pointer (some ⟨B10_2, 0, none⟩)), .int .i32 0]) ci), row (B10_1) 29 #[.iface 202 (.pointer (some ⟨ob, 0, none⟩)), .int .i32 0], row (B10) 58 #[.int .u32 src, .int .u32 (n : Int)], row (pb) 182 (((PC.setIfInBounds 287 (.int .i64 ((i : Int) + 1))).setIfInBounds 106 (.slice (some ⟨nd4, 0, none⟩) (n + 1) (n + 1 + nd5))).setIfInBounds 199 (.slice (some ⟨nd6, 0, none⟩) 1 (1 + nd7))), row (nd4) 201 (full symZ (symL (st ++ [syk (tn i) 27])) nd5), row (ms) 194 (MC.setIfInBounds 5 (.slice (some ⟨nd8, 0, none⟩) 1 (1 + nd9))), row (nd6) 295 (full trfZ [.nilIface, .int .i32 0, .int .u32 src, .int .u32 (n : Int)] nd7), row (nd8) 58 (full refZ [.int .u32 src, .int .u32 (n : Int)] nd9), row (B1_1) 29 #[.iface 56 (.pointer (some ⟨vi, 0, none⟩)), .int .i32 li], row (B1) 29 #[.iface 56 (.pointer (some ⟨B10_2, 0, none⟩)), .int .i32 0], row (xp) 22 #[.pointer (some ⟨pb, 0, none⟩)], row (xd) 214 #[.int .u8 0], row (xa) 210 #[.func (Fn.func 25) #[] #[.pointer (some ⟨eb, 0, none⟩)]], row (xv) 247 #[.func (Fn.func 45) #[] #[.pointer (some ⟨xm, 0, none⟩), .pointer (some ⟨xs, 0, none⟩), .pointer (some ⟨xr, 0, none⟩), .pointer (some ⟨xp, 0, none⟩), .pointer (some ⟨xo, 0, none⟩), .pointer (some ⟨xa, 0, none⟩)]], row (xm) 246 #[.map (some mb)], row (xr) 251 #[.func (Fn.func 42) #[] #[.pointer (some ⟨xc, 0, none⟩), .pointer (some ⟨xa, 0, none⟩), .pointer (some ⟨xp, 0, none⟩)]], ((mb, .map (imA [(202, ob), (205, ab)]) 2) : Rw), row (jb) 29 (full exZ JL cj), row (ob) 204 #[.slice (some ⟨pr, 0, none⟩) 1 (1 + cp), .int .i32 0, .int .i32 0, .bool false, .bool false], row (pr) 52 (full prZ [.pointer none, .nilIface, .int .i32 0, .iface 56 (.pointer (some ⟨vb, 0, none⟩)), .int .i32 0, .nilIface, .int .i32 0, .slice none 0 0, .int .i32 0, .int .i32 0, .int .u8 5, .int .u8 0] cp), ((mp, .map es k) : Rw)] X := by
    rw [← hW]
    exact (hO).alloc' _ (uw15.heap.size) (by simp)
  clear hW hO
  generalize uw15.heap.size = B17 at hN ⊢
  have hO := hN
  clear hN
  have hN : Own w0 W18 [row (eb) 29 #[.iface 241 (.pointer (some ⟨nd16, 0, none⟩)), .int .i32 0], row (ib) 29 (full exZ (putE IL mm [.iface 56 (.pointer (some ⟨B10_2, 0, none⟩)), .int .i32 0]) ci), row (B10_1) 29 #[.iface 202 (.pointer (some ⟨ob, 0, none⟩)), .int .i32 0], row (B10) 58 #[.int .u32 src, .int .u32 (n : Int)], row (pb) 182 (((PC.setIfInBounds 287 (.int .i64 ((i : Int) + 1))).setIfInBounds 106 (.slice (some ⟨nd4, 0, none⟩) (n + 1) (n + 1 + nd5))).setIfInBounds 199 (.slice (some ⟨nd6, 0, none⟩) 1 (1 + nd7))), row (nd4) 201 (full symZ (symL (st ++ [syk (tn i) 27])) nd5), row (ms) 194 (MC.setIfInBounds 5 (.slice (some ⟨nd8, 0, none⟩) 1 (1 + nd9))), row (nd6) 295 (full trfZ [.nilIface, .int .i32 0, .int .u32 src, .int .u32 (n : Int)] nd7), row (nd8) 58 (full refZ [.int .u32 src, .int .u32 (n : Int)] nd9), row (B1_1) 29 #[.iface 56 (.pointer (some ⟨vi, 0, none⟩)), .int .i32 li], row (B1) 29 #[.iface 56 (.pointer (some ⟨B10_2, 0, none⟩)), .int .i32 0], row (xp) 22 #[.pointer (some ⟨pb, 0, none⟩)], row (xd) 214 #[.int .u8 0], row (xa) 210 #[.func (Fn.func 25) #[] #[.pointer (some ⟨eb, 0, none⟩)]], row (xv) 247 #[.func (Fn.func 45) #[] #[.pointer (some ⟨xm, 0, none⟩), .pointer (some ⟨xs, 0, none⟩), .pointer (some ⟨xr, 0, none⟩), .pointer (some ⟨xp, 0, none⟩), .pointer (some ⟨xo, 0, none⟩), .pointer (some ⟨xa, 0, none⟩)]], row (xm) 246 #[.map (some mb)], row (xr) 251 #[.func (Fn.func 42) #[] #[.pointer (some ⟨xc, 0, none⟩), .pointer (some ⟨xa, 0, none⟩), .pointer (some ⟨xp, 0, none⟩)]], ((mb, .map (imA [(202, ob), (205, ab)]) 2) : Rw), row (jb) 29 (full exZ JL cj), row (ob) 204 #[.slice (some ⟨pr, 0, none⟩) 1 (1 + cp), .int .i32 0, .int .i32 0, .bool false, .bool false], row (pr) 52 (full prZ [.pointer none, .nilIface, .int .i32 0, .iface 56 (.pointer (some ⟨vb, 0, none⟩)), .int .i32 0, .nilIface, .int .i32 0, .slice none 0 0, .int .i32 0, .int .i32 0, .int .u8 5, .int .u8 0] cp), ((mp, .map es k) : Rw)] X := hO.sub [1, 2, 3, 4, 5, 6, 7, 8, 9, 10, 11, 12, 13, 14, 15, 16, 17, 18, 19, 20, 21, 22] (by decide)
  clear hO
  have hO := hN
  clear hN
  have hL := hO.apart
  have hX := hO.apartX
  have HL := Lib.hid hL
  have HX := Lib.hid hX
  clear hL hX
  have hP9 := hO.pick [16, 19, 20, 11, 13, 0, 4, 5, 21, 6, 8] (by decide)
  have h9_hn : (st ++ [syk (tn i) 27]).length = (n + 1) := (ln1 hn)
  have h9_hnb : (n + 1) ≤ 2000000 := (by omega)
  have h9_hgl : ([.int .u32 src, .int .u32 (n : Int)] : List Value).length = 1 * 2 := rfl
  have h9_hgm : 1 ≤ 2000000 := (by omega)
  have T9 := visO11 pb (((PC.setIfInBounds 287 (.int .i64 ((i : Int) + 1))).setIfInBounds 106 (.slice (some ⟨nd4, 0, none⟩) (n + 1) ((n + 1) + nd5))).setIfInBounds 199 (.slice (some ⟨nd6, 0, none⟩) 1 (1 + nd7))) nd4 nd5 (st ++ [syk (tn i) 27]) (n + 1) src mp es k ms (MC.setIfInBounds 5 (.slice (some ⟨nd8, 0, none⟩) 1 (1 + nd9))) nd8 nd9 ([.int .u32 src, .int .u32 (n : Int)]) 1 xc eb nd16 0 B17 0 xm xs xr xp xo xa ob 0 pr cp vb _ _ _ hP9 (get_other (get_other (get_other hk350 (by omega) _) (by omega) _) (by omega) _) (get_other (get_other (get_other hk32 (by omega) _) (by omega) _) (by omega) _) (get_other (get_other (get_other hk105 (by omega) _) (by omega) _) (by omega) _) (get_other (get_other (get_other hk66 (by omega) _) (by omega) _) (by omega) _) (get_other (get_other (get_other hk117 (by omega) _) (by omega) _) (by omega) _) (get_other (get_other (get_other hk187 (by omega) _) (by omega) _) (by omega) _) (get_other (get_set (get_other hk106 (by omega) _) _) (by omega) _) h9_hn h9_hnb (get_set hgen _) h9_hgl h9_hgm hno hg0 hg1
  refine Calls.mono T9 ?_
  clear hP9 T9 h9_hn h9_hnb h9_hgl h9_hgm
  rintro e uw19 ⟨nd20, nd21, nd22, nd23, nd24, rfl, hQ⟩
  have hN : Own w0 uw19 [row (xr) 251 #[.func (Fn.func 42) #[] #[.pointer (some ⟨xc, 0, none⟩), .pointer (some ⟨xa, 0, none⟩), .pointer (some ⟨xp, 0, none⟩)]], row (ob) 204 #[.slice (some ⟨pr, 0, none⟩) 1 (1 + cp), .int .i32 0, .int .i32 0, .bool false, .bool false], row (pr) 52 (full prZ [.pointer none, .nilIface, .int .i32 0, .iface 56 (.pointer (some ⟨vb, 0, none⟩)), .int .i32 0, .nilIface, .int .i32 0, .slice none 0 0, .int .i32 0, .int .i32 0, .int .u8 5, .int .u8 0] cp), row (xp) 22 #[.pointer (some ⟨pb, 0, none⟩)], row (xa) 210 #[.func (Fn.func 25) #[] #[.pointer (some ⟨eb, 0, none⟩)]], row (eb) 29 #[.iface 241 (.pointer (some ⟨nd20, 0, none⟩)), .int .i32 0], row (pb) 182 ((((PC.setIfInBounds 287 (.int .i64 ((i : Int) + 1))).setIfInBounds 106 (.slice (some ⟨nd4, 0, none⟩) (n + 1) ((n + 1) + nd5))).setIfInBounds 199 (.slice (some ⟨nd6, 0, none⟩) 1 (1 + nd7))).setIfInBounds 106 (.slice (some ⟨nd21, 0, none⟩) ((n + 1) + 1) ((n + 1) + 1 + nd22))), row (nd21) 201 (full symZ (symL (bump ((st ++ [syk (tn i) 27]) ++ [syk ⟨#[95, 95, 111, 98, 106, 82, 101, 115, 116]⟩ 27]) (n + 1))) nd22), ((mp, .map (es.push ⟨.string ⟨#[95, 95, 111, 98, 106, 82, 101, 115, 116]⟩, .agg #[.int .i32 0, .int .u32 src, .int .u32 ((n + 1) : Int)], k⟩) (k + 1)) : Rw), row (ms) 194 ((MC.setIfInBounds 5 (.slice (some ⟨nd8, 0, none⟩) 1 (1 + nd9))).setIfInBounds 5 (.slice (some ⟨nd23, 0, none⟩) (1 + 1) (1 + 1 + nd24))), row (nd23) 58 (full refZ [.int .u32 src, .int .u32 (n : Int), .int .u32 src, .int .u32 ((n + 1) : Int)] nd24), row (ib) 29 (full exZ (putE IL mm [.iface 56 (.pointer (some ⟨B10_2, 0, none⟩)), .int .i32 0]) ci), row (B10_1) 29 #[.iface 202 (.pointer (some ⟨ob, 0, none⟩)), .int .i32 0], row (B10) 58 #[.int .u32 src, .int .u32 (n : Int)], row (nd6) 295 (full trfZ [.nilIface, .int .i32 0, .int .u32 src, .int .u32 (n : Int)] nd7), row (B1_1) 29 #[.iface 56 (.pointer (some ⟨vi, 0, none⟩)), .int .i32 li], row (B1) 29 #[.iface 56 (.pointer (some ⟨B10_2, 0, none⟩)), .int .i32 0], row (xd) 214 #[.int .u8 0], row (xv) 247 #[.func (Fn.func 45) #[] #[.pointer (some ⟨xm, 0, none⟩), .pointer (some ⟨xs, 0, none⟩), .pointer (some ⟨xr, 0, none⟩), .pointer (some ⟨xp, 0, none⟩), .pointer (some ⟨xo, 0, none⟩), .pointer (some ⟨xa, 0, none⟩)]], row (xm) 246 #[.map (some mb)], ((mb, .map (imA [(202, ob), (205, ab)]) 2) : Rw), row (jb) 29 (full exZ JL cj)] X := hQ.back HL.out HX.out [1, 2, 3, 7, 9, 10, 12, 14, 15, 17, 18] (by decide) (by decide)
  clear hQ HL HX hO
  have hO := hN
  clear hN
  obtain ⟨c9_0_0, lt9_0, y9_0, -⟩ := hO.k1 0 rfl
  obtain ⟨c9_1_0, c9_1_1, c9_1_2, c9_1_3, c9_1_4, lt9_1, y9_1, -⟩ := hO.k5 1 rfl
  obtain ⟨c9_3_0, lt9_3, y9_3, -⟩ := hO.k1 3 rfl
  obtain ⟨c9_4_0, lt9_4, y9_4, -⟩ := hO.k1 4 rfl
  obtain ⟨c9_5_0, c9_5_1, lt9_5, y9_5, -⟩ := hO.k2 5 rfl
  obtain ⟨c9_12_0, c9_12_1, lt9_12, y9_12, -⟩ := hO.k2 12 rfl
  obtain ⟨c9_13_0, c9_13_1, lt9_13, y9_13, -⟩ := hO.k2 13 rfl
  obtain ⟨c9_15_0, c9_15_1, lt9_15, y9_15, -⟩ := hO.k2 15 rfl
  obtain ⟨c9_16_0, c9_16_1, lt9_16, y9_16, -⟩ := hO.k2 16 rfl
  obtain ⟨c9_17_0, lt9_17, y9_17, -⟩ := hO.k1 17 rfl
  obtain ⟨c9_18_0, lt9_18, y9_18, -⟩ := hO.k1 18 rfl
  obtain ⟨c9_19_0, lt9_19, y9_19, -⟩ := hO.k1 19 rfl
  have HO := Lib.hid hO
  clear hO
  go_wp2_with (first | (with_reducible refine Own.stay (fn := Tryz.f43) ?_) | (at_builtin; refine Own.appStop ?_) | fail)
  try with_reducible refine Own.Stay.mk ?_
  have hO := HO.out
  clear HO c9_0_0 lt9_0 y9_0 c9_1_0 c9_1_1 c9_1_2 c9_1_3 c9_1_4 lt9_1 y9_1 c9_3_0 lt9_3 y9_3 c9_4_0 lt9_4 y9_4 c9_5_0 c9_5_1 lt9_5 y9_5 c9_12_0 c9_12_1 lt9_12 y9_12 c9_13_0 c9_13_1 lt9_13 y9_13 c9_15_0 c9_15_1 lt9_15 y9_15 c9_16_0 c9_16_1 lt9_16 y9_16 c9_17_0 lt9_17 y9_17 c9_18_0 lt9_18 y9_18 c9_19_0 lt9_19 y9_19
  have hL := hO.apart
  have hX := hO.apartX
  have HL := Lib.hid hL
  have HX := Lib.hid hX
  clear hL hX
  have hP9 := hO.pick [6, 7] (by decide)
  have h9_hn : (bump ((st ++ [syk (tn i) 27]) ++ [syk ⟨#[95, 95, 111, 98, 106, 82, 101, 115, 116]⟩ 27]) (n + 1)).length = ((n + 1) + 1) := (lnb (ln1 (ln1 hn)))
  have h9_hnb : ((n + 1) + 1) ≤ 4000000 := (by omega)
  have h9_hu : ∃ s, (bump ((st ++ [syk (tn i) 27]) ++ [syk ⟨#[95, 95, 111, 98, 106, 82, 101, 115, 116]⟩ 27]) (n + 1))[n]? = some s ∧ s.uc < 4294967295 := ((HUB.out.snoc.snoc.bump _).use (by rw [lnb (ln1 (ln1 hn))]; omega) (by omega))
  have T9 := useG pb ((((PC.setIfInBounds 287 (.int .i64 ((i : Int) + 1))).setIfInBounds 106 (.slice (some ⟨nd4, 0, none⟩) (n + 1) ((n + 1) + nd5))).setIfInBounds 199 (.slice (some ⟨nd6, 0, none⟩) 1 (1 + nd7))).setIfInBounds 106 (.slice (some ⟨nd21, 0, none⟩) ((n + 1) + 1) (((n + 1) + 1) + nd22))) nd21 nd22 (bump ((st ++ [syk (tn i) 27]) ++ [syk ⟨#[95, 95, 111, 98, 106, 82, 101, 115, 116]⟩ 27]) (n + 1)) ((n + 1) + 1) src n _ _ _ hP9 (get_other (get_other (get_other (get_other hk350 (by omega) _) (by omega) _) (by omega) _) (by omega) _) (get_other (get_other (get_other (get_other hk32 (by omega) _) (by omega) _) (by omega) _) (by omega) _) (get_other (get_other (get_other (get_other hk105 (by omega) _) (by omega) _) (by omega) _) (by omega) _) (get_set (get_other (get_set (get_other hk106 (by omega) _) _) (by omega) _) _) h9_hn h9_hnb h9_hu
  refine Calls.mono T9 ?_
  clear hP9 T9 h9_hn h9_hnb h9_hu
  rintro e uw25 ⟨rfl, hQ⟩
  have hN : Own w0 uw25 [row (pb) 182 ((((PC.setIfInBounds 287 (.int .i64 ((i : Int) + 1))).setIfInBounds 106 (.slice (some ⟨nd4, 0, none⟩) (n + 1) ((n + 1) + nd5))).setIfInBounds 199 (.slice (some ⟨nd6, 0, none⟩) 1 (1 + nd7))).setIfInBounds 106 (.slice (some ⟨nd21, 0, none⟩) ((n + 1) + 1) (((n + 1) + 1) + nd22))), row (nd21) 201 (full symZ (symL (bump (bump ((st ++ [syk (tn i) 27]) ++ [syk ⟨#[95, 95, 111, 98, 106, 82, 101, 115, 116]⟩ 27]) (n + 1)) n)) nd22), row (xr) 251 #[.func (Fn.func 42) #[] #[.pointer (some ⟨xc, 0, none⟩), .pointer (some ⟨xa, 0, none⟩), .pointer (some ⟨xp, 0, none⟩)]], row (ob) 204 #[.slice (some ⟨pr, 0, none⟩) 1 (1 + cp), .int .i32 0, .int .i32 0, .bool false, .bool false], row (pr) 52 (full prZ [.pointer none, .nilIface, .int .i32 0, .iface 56 (.pointer (some ⟨vb, 0, none⟩)), .int .i32 0, .nilIface, .int .i32 0, .slice none 0 0, .int .i32 0, .int .i32 0, .int .u8 5, .int .u8 0] cp), row (xp) 22 #[.pointer (some ⟨pb, 0, none⟩)], row (xa) 210 #[.func (Fn.func 25) #[] #[.pointer (some ⟨eb, 0, none⟩)]], row (eb) 29 #[.iface 241 (.pointer (some ⟨nd20, 0, none⟩)), .int .i32 0], ((mp, .map (es.push ⟨.string ⟨#[95, 95, 111, 98, 106, 82, 101, 115, 116]⟩, .agg #[.int .i32 0, .int .u32 src, .int .u32 ((n + 1) : Int)], k⟩) (k + 1)) : Rw), row (ms) 194 ((MC.setIfInBounds 5 (.slice (some ⟨nd8, 0, none⟩) 1 (1 + nd9))).setIfInBounds 5 (.slice (some ⟨nd23, 0, none⟩) (1 + 1) (1 + 1 + nd24))), row (nd23) 58 (full refZ [.int .u32 src, .int .u32 (n : Int), .int .u32 src, .int .u32 ((n + 1) : Int)] nd24), row (ib) 29 (full exZ (putE IL mm [.iface 56 (.pointer (some ⟨B10_2, 0, none⟩)), .int .i32 0]) ci), row (B10_1) 29 #[.iface 202 (.pointer (some ⟨ob, 0, none⟩)), .int .i32 0], row (B10) 58 #[.int .u32 src, .int .u32 (n : Int)], row (nd6) 295 (full trfZ [.nilIface, .int .i32 0, .int .u32 src, .int .u32 (n : Int)] nd7), row (B1_1) 29 #[.iface 56 (.pointer (some ⟨vi, 0, none⟩)), .int .i32 li], row (B1) 29 #[.iface 56 (.pointer (some ⟨B10_2, 0, none⟩)), .int .i32 0], row (xd) 214 #[.int .u8 0], row (xv) 247 #[.func (Fn.func 45) #[] #[.pointer (some ⟨xm, 0, none⟩), .pointer (some ⟨xs, 0, none⟩), .pointer (some ⟨xr, 0, none⟩), .pointer (some ⟨xp, 0, none⟩), .pointer (some ⟨xo, 0, none⟩), .pointer (some ⟨xa, 0, none⟩)]], row (xm) 246 #[.map (some mb)], ((mb, .map (imA [(202, ob), (205, ab)]) 2) : Rw), row (jb) 29 (full exZ JL cj)] X := hQ.back HL.out HX.out [0, 1, 2, 3, 4, 5, 8, 9, 10, 11, 12, 13, 14, 15, 16, 17, 18, 19, 20, 21] (by decide) (by decide)
  clear hQ HL HX hO
  have hO := hN
  clear hN
  obtain ⟨c9_2_0, lt9_2, y9_2, -⟩ := hO.k1 2 rfl
  obtain ⟨c9_3_0, c9_3_1, c9_3_2, c9_3_3, c9_3_4, lt9_3, y9_3, -⟩ := hO.k5 3 rfl
  obtain ⟨c9_5_0, lt9_5, y9_5, -⟩ := hO.k1 5 rfl
  obtain ⟨c9_6_0, lt9_6, y9_6, -⟩ := hO.k1 6 rfl
  obtain ⟨c9_7_0, c9_7_1, lt9_7, y9_7, -⟩ := hO.k2 7 rfl
  obtain ⟨c9_12_0, c9_12_1, lt9_12, y9_12, -⟩ := hO.k2 12 rfl
  obtain ⟨c9_13_0, c9_13_1, lt9_13, y9_13, -⟩ := hO.k2 13 rfl
  obtain ⟨c9_15_0, c9_15_1, lt9_15, y9_15, -⟩ := hO.k2 15 rfl
  obtain ⟨c9_16_0, c9_16_1, lt9_16, y9_16, -⟩ := hO.k2 16 rfl
  obtain ⟨c9_17_0, lt9_17, y9_17, -⟩ := hO.k1 17 rfl
  obtain ⟨c9_18_0, lt9_18, y9_18, -⟩ := hO.k1 18 rfl
  obtain ⟨c9_19_0, lt9_19, y9_19, -⟩ := hO.k1 19 rfl
  have HO := Lib.hid hO
  clear hO
  go_wp2_with (first | (with_reducible refine Own.stay (fn := Tryz.f43) ?_) | (at_builtin; refine Own.appStop ?_) | fail)
  try with_reducible refine Own.Stay.mk ?_
  have hO := HO.out
  clear HO c9_2_0 lt9_2 y9_2 c9_3_0 c9_3_1 c9_3_2 c9_3_3 c9_3_4 lt9_3 y9_3 c9_5_0 lt9_5 y9_5 c9_6_0 lt9_6 y9_6 c9_7_0 c9_7_1 lt9_7 y9_7 c9_12_0 c9_12_1 lt9_12 y9_12 c9_13_0 c9_13_1 lt9_13 y9_13 c9_15_0 c9_15_1 lt9_15 y9_15 c9_16_0 c9_16_1 lt9_16 y9_16 c9_17_0 lt9_17 y9_17 c9_18_0 lt9_18 y9_18 c9_19_0 lt9_19 y9_19
  have hN : Own w0 uw25 [row (xp) 22 #[.pointer (some ⟨pb, 0, none⟩)], row (xd) 214 #[.int .u8 0], row (xa) 210 #[.func (Fn.func 25) #[] #[.pointer (some ⟨eb, 0, none⟩)]], row (xv) 247 #[.func (Fn.func 45) #[] #[.pointer (some ⟨xm, 0, none⟩), .pointer (some ⟨xs, 0, none⟩), .pointer (some ⟨xr, 0, none⟩), .pointer (some ⟨xp, 0, none⟩), .pointer (some ⟨xo, 0, none⟩), .pointer (some ⟨xa, 0, none⟩)]], row (xm) 246 #[.map (some mb)], row (xr) 251 #[.func (Fn.func 42) #[] #[.pointer (some ⟨xc, 0, none⟩), .pointer (some ⟨xa, 0, none⟩), .pointer (some ⟨xp, 0, none⟩)]], ((mb, .map (imA [(202, ob), (205, ab)]) 2) : Rw), row (eb) 29 #[.iface 241 (.pointer (some ⟨nd20, 0, none⟩)), .int .i32 0], row (ib) 29 (full exZ (putE IL mm [.iface 56 (.pointer (some ⟨B10_2, 0, none⟩)), .int .i32 0]) ci), row (jb) 29 (full exZ JL cj), row (ob) 204 #[.slice (some ⟨pr, 0, none⟩) 1 (1 + cp), .int .i32 0, .int .i32 0, .bool false, .bool false], row (pr) 52 (full prZ [.pointer none, .nilIface, .int .i32 0, .iface 56 (.pointer (some ⟨vb, 0, none⟩)), .int .i32 0, .nilIface, .int .i32 0, .slice none 0 0, .int .i32 0, .int .i32 0, .int .u8 5, .int .u8 0] cp), row (pb) 182 ((((PC.setIfInBounds 287 (.int .i64 ((i : Int) + 1))).setIfInBounds 106 (.slice (some ⟨nd4, 0, none⟩) (n + 1) ((n + 1) + nd5))).setIfInBounds 199 (.slice (some ⟨nd6, 0, none⟩) 1 (1 + nd7))).setIfInBounds 106 (.slice (some ⟨nd21, 0, none⟩) ((n + 1) + 1) (((n + 1) + 1) + nd22))), row (nd21) 201 (full symZ (symL (bump (bump ((st ++ [syk (tn i) 27]) ++ [syk ⟨#[95, 95, 111, 98, 106, 82, 101, 115, 116]⟩ 27]) (n + 1)) n)) nd22), ((mp, .map (es.push ⟨.string ⟨#[95, 95, 111, 98, 106, 82, 101, 115, 116]⟩, .agg #[.int .i32 0, .int .u32 src, .int .u32 ((n + 1) : Int)], k⟩) (k + 1)) : Rw), row (ms) 194 ((MC.setIfInBounds 5 (.slice (some ⟨nd8, 0, none⟩) 1 (1 + nd9))).setIfInBounds 5 (.slice (some ⟨nd23, 0, none⟩) (1 + 1) (1 + 1 + nd24))), row (nd23) 58 (full refZ [.int .u32 src, .int .u32 (n : Int), .int .u32 src, .int .u32 ((n + 1) : Int)] nd24), row (nd6) 295 (full trfZ [.nilIface, .int .i32 0, .int .u32 src, .int .u32 (n : Int)] nd7)] X := hO.sub [5, 17, 6, 18, 19, 2, 20, 7, 11, 21, 3, 4, 0, 1, 8, 9, 10, 14] (by decide)
  clear hO
  have hO := hN
  clear hN
  have hN : Own w0 uw25 [row (xp) 22 #[.pointer (some ⟨pb, 0, none⟩)], row (xd) 214 #[.int .u8 0], row (xa) 210 #[.func (Fn.func 25) #[] #[.pointer (some ⟨eb, 0, none⟩)]], row (xv) 247 #[.func (Fn.func 45) #[] #[.pointer (some ⟨xm, 0, none⟩), .pointer (some ⟨xs, 0, none⟩), .pointer (some ⟨xr, 0, none⟩), .pointer (some ⟨xp, 0, none⟩), .pointer (some ⟨xo, 0, none⟩), .pointer (some ⟨xa, 0, none⟩)]], row (xm) 246 #[.map (some mb)], row (xr) 251 #[.func (Fn.func 42) #[] #[.pointer (some ⟨xc, 0, none⟩), .pointer (some ⟨xa, 0, none⟩), .pointer (some ⟨xp, 0, none⟩)]], ((mb, .map (imA [(202, ob), (205, ab)]) 2) : Rw), row (eb) 29 #[.iface 241 (.pointer (some ⟨nd20, 0, none⟩)), .int .i32 0], row (ib) 29 (full exZ (iW 0 IL mm B10_2 0) ci), row (jb) 29 (full exZ JL cj), row (ob) 204 #[.slice (some ⟨pr, 0, none⟩) 1 (1 + cp), .int .i32 0, .int .i32 0, .bool false, .bool false], row (pr) 52 (full prZ [.pointer none, .nilIface, .int .i32 0, .iface 56 (.pointer (some ⟨vb, 0, none⟩)), .int .i32 0, .nilIface, .int .i32 0, .slice none 0 0, .int .i32 0, .int .i32 0, .int .u8 5, .int .u8 0] cp), row (pb) 182 (pcW PC i n 0 nd21 nd22 nd6 nd7), row (nd21) 201 (full symZ (symL (stW 0 i n st)) nd22), ((mp, .map (es.push ⟨.string ⟨#[95, 95, 111, 98, 106, 82, 101, 115, 116]⟩, .agg #[.int .i32 0, .int .u32 src, .int .u32 ((n + 1 + 0 : Nat) : Int)], k⟩) (k + 1)) : Rw), row (ms) 194 (MC.setIfInBounds 5 (.slice (some ⟨nd23, 0, none⟩) (2 + 0) (2 + 0 + nd24))), row (nd23) 58 (full refZ (gW 0 src n) nd24), row (nd6) 295 (full trfZ (qW 0 src n) nd7)] X := hO.conv (by
    rw [tow0, Array.setIfInBounds_setIfInBounds]
    rfl)
  clear hO
  have hO := hN
  clear hN
  refine bodyPost_ret (v := .tuple #[]) ?_ rfl ⟨nd21, nd22, nd6, nd7, nd23, nd24, nd20, B10_2, 0, rfl, hO.sub [0, 1, 2, 3, 4, 5, 6, 7, 8, 9, 10, 11, 12, 13, 14, 15, 16, 17] (by decide)⟩
  simp [results, Tryz.results43, go_sem]
end Go.Proofs.YtghofdhhhbbaaaaGreatDoor.Use
namespace Go.Proofs.YtghofdhhhbbaaaaGreatDoor.Use
open Go.ChangeShapes Go.WideShapes Go.ChangeAt Go.RowKit Go.Sort Own
set_option linter.unusedVariables false
def split1Post (pb : Nat) (PC : Array Value) (sb c : Nat) (st : List Sy) (n : Nat) (src : Int) (i mp : Nat) (es : Array MapEntry) (k ms : Nat) (MC : Array Value) (xp xd xa xv xm xs xr xo xc eb : Nat) (wa : Int) (ab ib ci : Nat) (IL : List Value) (mm tt ob pr cp vb mb jb cj : Nat) (JL : List Value) (vi : Nat) (li : Int) (w0 : World) (X : Nat → Obj → Prop) (e : Ending) (w' : World) : Prop :=
  ∃ sb2 : Nat, ∃ c2 : Nat, ∃ qb2 : Nat, ∃ cq2 : Nat, ∃ gb2 : Nat, ∃ cg2 : Nat, ∃ xn : Nat, ∃ b1 : Nat, ∃ b2 : Nat, e = .returned (.tuple #[]) ∧ Own w0 w' [row (xp) 22 #[.pointer (some ⟨pb, 0, none⟩)], row (xd) 214 #[.int .u8 0], row (xa) 210 #[.func (Fn.func 25) #[] #[.pointer (some ⟨eb, 0, none⟩)]], row (xv) 247 #[.func (Fn.func 45) #[] #[.pointer (some ⟨xm, 0, none⟩), .pointer (some ⟨xs, 0, none⟩), .pointer (some ⟨xr, 0, none⟩), .pointer (some ⟨xp, 0, none⟩), .pointer (some ⟨xo, 0, none⟩), .pointer (some ⟨xa, 0, none⟩)]], row (xm) 246 #[.map (some mb)], row (xr) 251 #[.func (Fn.func 42) #[] #[.pointer (some ⟨xc, 0, none⟩), .pointer (some ⟨xa, 0, none⟩), .pointer (some ⟨xp, 0, none⟩)]], ((mb, .map (imA [(202, ob), (205, ab)]) 2) : Rw), row (eb) 29 #[.iface 241 (.pointer (some ⟨xn, 0, none⟩)), .int .i32 0], row (ib) 29 (full exZ (iW 1 IL mm b1 b2) ci), row (jb) 29 (full exZ JL cj), row (ob) 204 #[.slice (some ⟨pr, 0, none⟩) 1 (1 + cp), .int .i32 0, .int .i32 0, .bool false, .bool false], row (pr) 52 (full prZ [.pointer none, .nilIface, .int .i32 0, .iface 56 (.pointer (some ⟨vb, 0, none⟩)), .int .i32 0, .nilIface, .int .i32 0, .slice none 0 0, .int .i32 0, .int .i32 0, .int .u8 5, .int .u8 0] cp), row (pb) 182 (pcW PC i n 1 sb2 c2 qb2 cq2), row (sb2) 201 (full symZ (symL (stW 1 i n st)) c2), ((mp, .map (es.push ⟨.string ⟨#[95, 95, 111, 98, 106, 82, 101, 115, 116]⟩, .agg #[.int .i32 0, .int .u32 src, .int .u32 ((n + 1 + 1 : Nat) : Int)], k⟩) (k + 1)) : Rw), row (ms) 194 (MC.setIfInBounds 5 (.slice (some ⟨gb2, 0, none⟩) (2 + 1) (2 + 1 + cg2))), row (gb2) 58 (full refZ (gW 1 src n) cg2), row (qb2) 295 (full trfZ (qW 1 src n) cq2)] X
set_option maxRecDepth 100000 in
set_option maxHeartbeats 4000000 in
theorem split1 (pb : Nat) (PC : Array Value) (sb c : Nat) (st : List Sy) (n : Nat) (src : Int) (i mp : Nat) (es : Array MapEntry) (k ms : Nat) (MC : Array Value) (xp xd xa xv xm xs xr xo xc eb : Nat) (wa : Int) (ab ib ci : Nat) (IL : List Value) (mm tt ob pr cp vb mb jb cj : Nat) (JL : List Value) (vi : Nat) (li : Int) (w0 w : World) (X : Nat → Obj → Prop) (hO : Own w0 w [row (xp) 22 #[.pointer (some ⟨pb, 0, none⟩)], row (xd) 214 #[.int .u8 0], row (xa) 210 #[.func (Fn.func 25) #[] #[.pointer (some ⟨eb, 0, none⟩)]], row (xv) 247 #[.func (Fn.func 45) #[] #[.pointer (some ⟨xm, 0, none⟩), .pointer (some ⟨xs, 0, none⟩), .pointer (some ⟨xr, 0, none⟩), .pointer (some ⟨xp, 0, none⟩), .pointer (some ⟨xo, 0, none⟩), .pointer (some ⟨xa, 0, none⟩)]], row (xm) 246 #[.map (some mb)], row (xr) 251 #[.func (Fn.func 42) #[] #[.pointer (some ⟨xc, 0, none⟩), .pointer (some ⟨xa, 0, none⟩), .pointer (some ⟨xp, 0, none⟩)]], ((mb, .map (imA [(202, ob), (205, ab)]) 2) : Rw), row (eb) 29 #[.nilIface, .int .i32 wa], row (ib) 29 (full exZ IL ci), row (jb) 29 (full exZ JL cj), row (ob) 204 #[.slice (some ⟨pr, 0, none⟩) 1 (1 + cp), .int .i32 0, .int .i32 0, .bool false, .bool false], row (pr) 52 (full prZ [.pointer none, .nilIface, .int .i32 0, .iface 56 (.pointer (some ⟨vb, 0, none⟩)), .int .i32 0, .nilIface, .int .i32 0, .slice none 0 0, .int .i32 0, .int .i32 0, .int .u8 5, .int .u8 0] cp), row (pb) 182 PC, row (sb) 201 (full symZ (symL st) c), ((mp, .map es k) : Rw), row (ms) 194 MC] X) (hk350 : PC[350]? = some (.bool false)) (hk32 : PC[32]? = some (.bool false)) (hk105 : PC[105]? = some (.pointer none)) (hk66 : PC[66]? = some (.int .u32 src)) (hk117 : PC[117]? = some (.map (some mp))) (hk187 : PC[187]? = some (.pointer (some ⟨ms, 0, none⟩))) (hk104 : PC[104]? = some (.pointer (some ⟨ms, 0, none⟩))) (hkind : MC[15]? = some (.int .u8 6)) (hk287 : PC[287]? = some (.int .i64 (i : Int))) (hk199 : PC[199]? = some (.slice none 0 0)) (hgen : MC[5]? = some (.slice none 0 0)) (hk106 : PC[106]? = some (.slice (some ⟨sb, 0, none⟩) n (n + c))) (hn : st.length = n) (hnb : n ≤ 1000000) (hi : i ≤ 1000) (hub : UcB st 1000) (hno : Instr.findNow .string (.string ⟨#[95, 95, 111, 98, 106, 82, 101, 115, 116]⟩) es.toList 0 = some none) (hg0 : w0.cell? ⟨0, 0, none⟩ = some (.int .u32 4294967295)) (hg1 : w0.cell? ⟨0, 1, none⟩ = some (.int .u32 4294967295)) (hlen : IL.length = (mm + 1 + (tt + 1)) * 2) (hJ : ItA JL 0 (tt + 1)) (hJl : JL.length = (tt + 1) * 2) (hm4 : mm ≤ 4096) (ht4 : tt + 1 ≤ 4096) :
    Calls Tryz.prog 43 #[.slice (some ⟨ib, 0, none⟩) mm (mm + 1 + (tt + 1) + ci), .agg #[.iface 202 (.pointer (some ⟨ob, 0, none⟩)), .int .i32 0], .slice (some ⟨jb, 0, none⟩) (tt + 1) (tt + 1 + cj), .agg #[.iface 56 (.pointer (some ⟨vi, 0, none⟩)), .int .i32 li], .bool false, .pointer (some ⟨xp, 0, none⟩), .pointer (some ⟨xd, 0, none⟩), .pointer (some ⟨xa, 0, none⟩), .pointer (some ⟨xv, 0, none⟩)] w (split1Post pb PC sb c st n src i mp es k ms MC xp xd xa xv xm xs xr xo xc eb wa ab ib ci IL mm tt ob pr cp vb mb jb cj JL vi li w0 X) := by
  go_enter Tryz.func43, Tryz.ntmps43
  have HJ := Lib.hid hJ
  have HUB := Lib.hid hub
  clear hJ hub
  obtain ⟨v9, hv0, hv1⟩ := HJ.out 0 (by omega) (by omega)
  replace hv0 : JL[0]? = some (.iface 56 (.pointer (some ⟨v9, 0, none⟩))) := hv0
  replace hv1 : JL[1]? = some (.int .i32 0) := hv1
  have ht7 : (0 : Int) < (tt : Int) + 1 := by omega
  have ht8 : (0 : Int) ≤ (tt : Int) + 1 := by omega
  obtain ⟨c9_0_0, lt9_0, y9_0, -⟩ := hO.k1 0 rfl
  obtain ⟨c9_1_0, lt9_1, y9_1, -⟩ := hO.k1 1 rfl
  obtain ⟨c9_2_0, lt9_2, y9_2, -⟩ := hO.k1 2 rfl
  obtain ⟨c9_3_0, lt9_3, y9_3, -⟩ := hO.k1 3 rfl
  obtain ⟨c9_4_0, lt9_4, y9_4, -⟩ := hO.k1 4 rfl
  obtain ⟨c9_5_0, lt9_5, y9_5, -⟩ := hO.k1 5 rfl
  obtain ⟨c9_7_0, c9_7_1, lt9_7, y9_7, -⟩ := hO.k2 7 rfl
  obtain ⟨c9_10_0, c9_10_1, c9_10_2, c9_10_3, c9_10_4, lt9_10, y9_10, -⟩ := hO.k5 10 rfl
  have HO := Lib.hid hO
  clear hO
  go_wp2_with (first | (with_reducible refine Own.stay (fn := Tryz.f43) ?_) | (at_builtin; refine Own.appStop ?_) | fail)
  try with_reducible refine Own.Stay.mk ?_
  have hO := HO.out
  clear HO c9_0_0 lt9_0 y9_0 c9_1_0 lt9_1 y9_1 c9_2_0 lt9_2 y9_2 c9_3_0 lt9_3 y9_3 c9_4_0 lt9_4 y9_4 c9_5_0 lt9_5 y9_5 c9_7_0 c9_7_1 lt9_7 y9_7 c9_10_0 c9_10_1 c9_10_2 c9_10_3 c9_10_4 lt9_10 y9_10
  generalize hW : World.alloc _ _ = W2
  have hN : Own w0 W2 [row (w.heap.size + 1) 29 #[.iface 56 (.pointer (some ⟨vi, 0, none⟩)), .int .i32 li], row (w.heap.size) 29 #[.iface 202 (.pointer (some ⟨ob, 0, none⟩)), .int .i32 0], row (xp) 22 #[.pointer (some ⟨pb, 0, none⟩)], row (xd) 214 #[.int .u8 0], row (xa) 210 #[.func (Fn.func 25) #[] #[.pointer (some ⟨eb, 0, none⟩)]], row (xv) 247 #[.func (Fn.func 45) #[] #[.pointer (some ⟨xm, 0, none⟩), .pointer (some ⟨xs, 0, none⟩), .pointer (some ⟨xr, 0, none⟩), .pointer (some ⟨xp, 0, none⟩), .pointer (some ⟨xo, 0, none⟩), .pointer (some ⟨xa, 0, none⟩)]], row (xm) 246 #[.map (some mb)], row (xr) 251 #[.func (Fn.func 42) #[] #[.pointer (some ⟨xc, 0, none⟩), .pointer (some ⟨xa, 0, none⟩), .pointer (some ⟨xp, 0, none⟩)]], ((mb, .map (imA [(202, ob), (205, ab)]) 2) : Rw), row (eb) 29 #[.nilIface, .int .i32 wa], row (ib) 29 (full exZ IL ci), row (jb) 29 (full exZ JL cj), row (ob) 204 #[.slice (some ⟨pr, 0, none⟩) 1 (1 + cp), .int .i32 0, .int .i32 0, .bool false, .bool false], row (pr) 52 (full prZ [.pointer none, .nilIface, .int .i32 0, .iface 56 (.pointer (some ⟨vb, 0, none⟩)), .int .i32 0, .nilIface, .int .i32 0, .slice none 0 0, .int .i32 0, .int .i32 0, .int .u8 5, .int .u8 0] cp), row (pb) 182 PC, row (sb) 201 (full symZ (symL st) c), ((mp, .map es k) : Rw), row (ms) 194 MC] X := by
    rw [← hW]
    exact ((hO).alloc' _ (w.heap.size) (by simp)).alloc' _ (w.heap.size + 1) (by simp)
  clear hW hO
  generalize w.heap.size + 1 = B1_1 at hN ⊢
  generalize w.heap.size = B1 at hN ⊢
  have hO := hN
  clear hN
  have hL := hO.apart
  have hX := hO.apartX
  have HL := Lib.hid hL
  have HX := Lib.hid hX
  clear hL hX
  have hP9 := hO.pick [14, 15, 17] (by decide)
  have h9_hnb : n ≤ 2000000 := (by omega)
  have h9_hi : i ≤ 100000 := (by omega)
  have T9 := gtR00 pb PC sb c st n src i ms MC _ _ _ hP9 hk66 hk32 hk106 hn h9_hnb hk104 hkind hk287 hk199 hgen h9_hi hg0 hg1
  refine Calls.mono T9 ?_
  clear hP9 T9 h9_hnb h9_hi
  rintro e uw3 ⟨nd4, nd5, nd6, nd7, nd8, nd9, rfl, hQ⟩
  have hN : Own w0 uw3 [row (pb) 182 (((PC.setIfInBounds 287 (.int .i64 ((i : Int) + 1))).setIfInBounds 106 (.slice (some ⟨nd4, 0, none⟩) (n + 1) (n + 1 + nd5))).setIfInBounds 199 (.slice (some ⟨nd6, 0, none⟩) 1 (1 + nd7))), row (nd4) 201 (full symZ (symL (st ++ [syk (tn i) 27])) nd5), row (ms) 194 (MC.setIfInBounds 5 (.slice (some ⟨nd8, 0, none⟩) 1 (1 + nd9))), row (nd6) 295 (full trfZ [.nilIface, .int .i32 0, .int .u32 src, .int .u32 (n : Int)] nd7), row (nd8) 58 (full refZ [.int .u32 src, .int .u32 (n : Int)] nd9), row (B1_1) 29 #[.iface 56 (.pointer (some ⟨vi, 0, none⟩)), .int .i32 li], row (B1) 29 #[.iface 202 (.pointer (some ⟨ob, 0, none⟩)), .int .i32 0], row (xp) 22 #[.pointer (some ⟨pb, 0, none⟩)], row (xd) 214 #[.int .u8 0], row (xa) 210 #[.func (Fn.func 25) #[] #[.pointer (some ⟨eb, 0, none⟩)]], row (xv) 247 #[.func (Fn.func 45) #[] #[.pointer (some ⟨xm, 0, none⟩), .pointer (some ⟨xs, 0, none⟩), .pointer (some ⟨xr, 0, none⟩), .pointer (some ⟨xp, 0, none⟩), .pointer (some ⟨xo, 0, none⟩), .pointer (some ⟨xa, 0, none⟩)]], row (xm) 246 #[.map (some mb)], row (xr) 251 #[.func (Fn.func 42) #[] #[.pointer (some ⟨xc, 0, none⟩), .pointer (some ⟨xa, 0, none⟩), .pointer (some ⟨xp, 0, none⟩)]], ((mb, .map (imA [(202, ob), (205, ab)]) 2) : Rw), row (eb) 29 #[.nilIface, .int .i32 wa], row (ib) 29 (full exZ IL ci), row (jb) 29 (full exZ JL cj), row (ob) 204 #[.slice (some ⟨pr, 0, none⟩) 1 (1 + cp), .int .i32 0, .int .i32 0, .bool false, .bool false], row (pr) 52 (full prZ [.pointer none, .nilIface, .int .i32 0, .iface 56 (.pointer (some ⟨vb, 0, none⟩)), .int .i32 0, .nilIface, .int .i32 0, .slice none 0 0, .int .i32 0, .int .i32 0, .int .u8 5, .int .u8 0] cp), ((mp, .map es k) : Rw)] X := hQ.back HL.out HX.out [0, 1, 2, 3, 4, 5, 6, 7, 8, 9, 10, 11, 12, 13, 16] (by decide) (by decide)
  clear hQ HL HX hO
  have hO := hN
  clear hN
  obtain ⟨c9_5_0, c9_5_1, lt9_5, y9_5, -⟩ := hO.k2 5 rfl
  obtain ⟨c9_6_0, c9_6_1, lt9_6, y9_6, -⟩ := hO.k2 6 rfl
  obtain ⟨c9_7_0, lt9_7, y9_7, -⟩ := hO.k1 7 rfl
  obtain ⟨c9_8_0, lt9_8, y9_8, -⟩ := hO.k1 8 rfl
  obtain ⟨c9_9_0, lt9_9, y9_9, -⟩ := hO.k1 9 rfl
  obtain ⟨c9_10_0, lt9_10, y9_10, -⟩ := hO.k1 10 rfl
  obtain ⟨c9_11_0, lt9_11, y9_11, -⟩ := hO.k1 11 rfl
  obtain ⟨c9_12_0, lt9_12, y9_12, -⟩ := hO.k1 12 rfl
  obtain ⟨c9_14_0, c9_14_1, lt9_14, y9_14, -⟩ := hO.k2 14 rfl
  obtain ⟨c9_17_0, c9_17_1, c9_17_2, c9_17_3, c9_17_4, lt9_17, y9_17, -⟩ := hO.k5 17 rfl
  have HO := Lib.hid hO
  clear hO
  go_wp2_with (first | (with_reducible refine Own.stay (fn := Tryz.f43) ?_) | (at_builtin; refine Own.appStop ?_) | fail)
  try with_reducible refine Own.Stay.mk ?_
  have hO := HO.out
  clear HO c9_5_0 c9_5_1 lt9_5 y9_5 c9_6_0 c9_6_1 lt9_6 y9_6 c9_7_0 lt9_7 y9_7 c9_8_0 lt9_8 y9_8 c9_9_0 lt9_9 y9_9 c9_10_0 lt9_10 y9_10 c9_11_0 lt9_11 y9_11 c9_12_0 lt9_12 y9_12 c9_14_0 c9_14_1 lt9_14 y9_14 c9_17_0 c9_17_1 c9_17_2 c9_17_3 c9_17_4 lt9_17 y9_17
  generalize hW : World.alloc _ _ = W11
  have hN : Own w0 W11 [row (uw3.heap.size + 1 + 1 + 1) 29 #[.iface 56 (.pointer (some ⟨uw3.heap.size + 1 + 1, 0, none⟩)), .int .i32 0], row (uw3.heap.size + 1 + 1) 60 #[.int .u32 src, .int .u32 (n : Int), .bool false, .bool false, .bool false], row (uw3.heap.size + 1) 29 #[.iface 202 (.pointer (some ⟨ob, 0, none⟩)), .int .i32 0], row (uw3.heap.size) 58 #[.int .u32 src, .int .u32 (n : Int)], row (pb) 182 (((PC.setIfInBounds 287 (.int .i64 ((i : Int) + 1))).setIfInBounds 106 (.slice (some ⟨nd4, 0, none⟩) (n + 1) (n + 1 + nd5))).setIfInBounds 199 (.slice (some ⟨nd6, 0, none⟩) 1 (1 + nd7))), row (nd4) 201 (full symZ (symL (st ++ [syk (tn i) 27])) nd5), row (ms) 194 (MC.setIfInBounds 5 (.slice (some ⟨nd8, 0, none⟩) 1 (1 + nd9))), row (nd6) 295 (full trfZ [.nilIface, .int .i32 0, .int .u32 src, .int .u32 (n : Int)] nd7), row (nd8) 58 (full refZ [.int .u32 src, .int .u32 (n : Int)] nd9), row (B1_1) 29 #[.iface 56 (.pointer (some ⟨vi, 0, none⟩)), .int .i32 li], row (B1) 29 #[.iface 56 (.pointer (some ⟨uw3.heap.size + 1 + 1, 0, none⟩)), .int .i32 0], row (xp) 22 #[.pointer (some ⟨pb, 0, none⟩)], row (xd) 214 #[.int .u8 0], row (xa) 210 #[.func (Fn.func 25) #[] #[.pointer (some ⟨eb, 0, none⟩)]], row (xv) 247 #[.func (Fn.func 45) #[] #[.pointer (some ⟨xm, 0, none⟩), .pointer (some ⟨xs, 0, none⟩), .pointer (some ⟨xr, 0, none⟩), .pointer (some ⟨xp, 0, none⟩), .pointer (some ⟨xo, 0, none⟩), .pointer (some ⟨xa, 0, none⟩)]], row (xm) 246 #[.map (some mb)], row (xr) 251 #[.func (Fn.func 42) #[] #[.pointer (some ⟨xc, 0, none⟩), .pointer (some ⟨xa, 0, none⟩), .pointer (some ⟨xp, 0, none⟩)]], ((mb, .map (imA [(202, ob), (205, ab)]) 2) : Rw), row (eb) 29 #[.nilIface, .int .i32 wa], row (ib) 29 (full exZ IL ci), row (jb) 29 (full exZ JL cj), row (ob) 204 #[.slice (some ⟨pr, 0, none⟩) 1 (1 + cp), .int .i32 0, .int .i32 0, .bool false, .bool false], row (pr) 52 (full prZ [.pointer none, .nilIface, .int .i32 0, .iface 56 (.pointer (some ⟨vb, 0, none⟩)), .int .i32 0, .nilIface, .int .i32 0, .slice none 0 0, .int .i32 0, .int .i32 0, .int .u8 5, .int .u8 0] cp), ((mp, .map es k) : Rw)] X := by
    rw [← hW]
    exact (((((hO).alloc' _ (uw3.heap.size) (by simp)).alloc' _ (uw3.heap.size + 1) (by simp)).alloc' _ (uw3.heap.size + 1 + 1) (by simp)).set 9 rfl 0 _).alloc' _ (uw3.heap.size + 1 + 1 + 1) (by simp)
  clear hW hO
  generalize uw3.heap.size + 1 + 1 + 1 = B10_3 at hN ⊢
  generalize uw3.heap.size + 1 + 1 = B10_2 at hN ⊢
  generalize uw3.heap.size + 1 = B10_1 at hN ⊢
  generalize uw3.heap.size = B10 at hN ⊢
  have hO := hN
  clear hN
  refine Own.AppStop.mk ?_
  obtain ⟨i9, hi9, z1, z2, z3⟩ := info_parts infoEx
  have hL := hO.apart
  have hX := hO.apartX
  have HL := Lib.hid hL
  have HX := Lib.hid hX
  clear hL hX
  have hP9 := hO.pick [19, 0] (by decide)
  refine Own.wpList_append_in rfl (.tmp 56) (.tmp 58) 45 rfl 29 i9 (.agg exZ) 2 24 Tryz.underlying45 hi9 z1 z2 hP9 rfl rfl (by show mm * 2 + 2 ≤ _; omega) (by omega) rfl (oneAll rfl) ?_
  intro uw12 hQ
  clear hP9
  have hN : Own w0 uw12 [row (ib) 29 (full exZ (putE IL mm [.iface 56 (.pointer (some ⟨B10_2, 0, none⟩)), .int .i32 0]) ci), row (B10_3) 29 #[.iface 56 (.pointer (some ⟨B10_2, 0, none⟩)), .int .i32 0], row (B10_2) 60 #[.int .u32 src, .int .u32 (n : Int), .bool false, .bool false, .bool false], row (B10_1) 29 #[.iface 202 (.pointer (some ⟨ob, 0, none⟩)), .int .i32 0], row (B10) 58 #[.int .u32 src, .int .u32 (n : Int)], row (pb) 182 (((PC.setIfInBounds 287 (.int .i64 ((i : Int) + 1))).setIfInBounds 106 (.slice (some ⟨nd4, 0, none⟩) (n + 1) (n + 1 + nd5))).setIfInBounds 199 (.slice (some ⟨nd6, 0, none⟩) 1 (1 + nd7))), row (nd4) 201 (full symZ (symL (st ++ [syk (tn i) 27])) nd5), row (ms) 194 (MC.setIfInBounds 5 (.slice (some ⟨nd8, 0, none⟩) 1 (1 + nd9))), row (nd6) 295 (full trfZ [.nilIface, .int .i32 0, .int .u32 src, .int .u32 (n : Int)] nd7), row (nd8) 58 (full refZ [.int .u32 src, .int .u32 (n : Int)] nd9), row (B1_1) 29 #[.iface 56 (.pointer (some ⟨vi, 0, none⟩)), .int .i32 li], row (B1) 29 #[.iface 56 (.pointer (some ⟨B10_2, 0, none⟩)), .int .i32 0], row (xp) 22 #[.pointer (some ⟨pb, 0, none⟩)], row (xd) 214 #[.int .u8 0], row (xa) 210 #[.func (Fn.func 25) #[] #[.pointer (some ⟨eb, 0, none⟩)]], row (xv) 247 #[.func (Fn.func 45) #[] #[.pointer (some ⟨xm, 0, none⟩), .pointer (some ⟨xs, 0, none⟩), .pointer (some ⟨xr, 0, none⟩), .pointer (some ⟨xp, 0, none⟩), .pointer (some ⟨xo, 0, none⟩), .pointer (some ⟨xa, 0, none⟩)]], row (xm) 246 #[.map (some mb)], row (xr) 251 #[.func (Fn.func 42) #[] #[.pointer (some ⟨xc, 0, none⟩), .pointer (some ⟨xa, 0, none⟩), .pointer (some ⟨xp, 0, none⟩)]], ((mb, .map (imA [(202, ob), (205, ab)]) 2) : Rw), row (eb) 29 #[.nilIface, .int .i32 wa], row (jb) 29 (full exZ JL cj), row (ob) 204 #[.slice (some ⟨pr, 0, none⟩) 1 (1 + cp), .int .i32 0, .int .i32 0, .bool false, .bool false], row (pr) 52 (full prZ [.pointer none, .nilIface, .int .i32 0, .iface 56 (.pointer (some ⟨vb, 0, none⟩)), .int .i32 0, .nilIface, .int .i32 0, .slice none 0 0, .int .i32 0, .int .i32 0, .int .u8 5, .int .u8 0] cp), ((mp, .map es k) : Rw)] X := hQ.back HL.out HX.out [1, 2, 3, 4, 5, 6, 7, 8, 9, 10, 11, 12, 13, 14, 15, 16, 17, 18, 20, 21, 22, 23] (by decide) (by decide)
  clear hQ HL HX hO
  have hO := hN
  clear hN
  obtain ⟨c9_1_0, c9_1_1, lt9_1, y9_1, -⟩ := hO.k2 1 rfl
  obtain ⟨c9_2_0, c9_2_1, c9_2_2, c9_2_3, c9_2_4, lt9_2, y9_2, -⟩ := hO.k5 2 rfl
  obtain ⟨c9_3_0, c9_3_1, lt9_3, y9_3, -⟩ := hO.k2 3 rfl
  obtain ⟨c9_4_0, c9_4_1, lt9_4, y9_4, -⟩ := hO.k2 4 rfl
  obtain ⟨c9_10_0, c9_10_1, lt9_10, y9_10, -⟩ := hO.k2 10 rfl
  obtain ⟨c9_11_0, c9_11_1, lt9_11, y9_11, -⟩ := hO.k2 11 rfl
  obtain ⟨c9_12_0, lt9_12, y9_12, -⟩ := hO.k1 12 rfl
  obtain ⟨c9_13_0, lt9_13, y9_13, -⟩ := hO.k1 13 rfl
  obtain ⟨c9_14_0, lt9_14, y9_14, -⟩ := hO.k1 14 rfl
  obtain ⟨c9_15_0, lt9_15, y9_15, -⟩ := hO.k1 15 rfl
  obtain ⟨c9_16_0, lt9_16, y9_16, -⟩ := hO.k1 16 rfl
  obtain ⟨c9_17_0, lt9_17, y9_17, -⟩ := hO.k1 17 rfl
  obtain ⟨c9_19_0, c9_19_1, lt9_19, y9_19, -⟩ := hO.k2 19 rfl
  obtain ⟨c9_21_0, c9_21_1, c9_21_2, c9_21_3, c9_21_4, lt9_21, y9_21, -⟩ := hO.k5 21 rfl
  have HO := Lib.hid hO
  clear hO
  go_wp2_with (first | (with_reducible refine Own.stay (fn := Tryz.f43) ?_) | (at_builtin; refine Own.appStop ?_) | fail)
  try with_reducible refine Own.Stay.mk ?_
  have hO := HO.out
  clear HO c9_1_0 c9_1_1 lt9_1 y9_1 c9_2_0 c9_2_1 c9_2_2 c9_2_3 c9_2_4 lt9_2 y9_2 c9_3_0 c9_3_1 lt9_3 y9_3 c9_4_0 c9_4_1 lt9_4 y9_4 c9_10_0 c9_10_1 lt9_10 y9_10 c9_11_0 c9_11_1 lt9_11 y9_11 c9_12_0 lt9_12 y9_12 c9_13_0 lt9_13 y9_13 c9_14_0 lt9_14 y9_14 c9_15_0 lt9_15 y9_15 c9_16_0 lt9_16 y9_16 c9_17_0 lt9_17 y9_17 c9_19_0 c9_19_1 lt9_19 y9_19 c9_21_0 c9_21_1 c9_21_2 c9_21_3 c9_21_4 lt9_21 y9_21
  generalize hW : World.alloc _ _ = W14
  have hN : Own w0 W14 [row (uw12.heap.size + 1) 29 #[.nilIface, .int .i32 0], row (uw12.heap.size) 29 #[.nilIface, .int .i32 0], row (ib) 29 (full exZ (putE IL mm [.iface 56 (.pointer (some ⟨B10_2, 0, none⟩)), .int .i32 0]) ci), row (B10_3) 29 #[.iface 56 (.pointer (some ⟨B10_2, 0, none⟩)), .int .i32 0], row (B10_2) 60 #[.int .u32 src, .int .u32 (n : Int), .bool false, .bool false, .bool false], row (B10_1) 29 #[.iface 202 (.pointer (some ⟨ob, 0, none⟩)), .int .i32 0], row (B10) 58 #[.int .u32 src, .int .u32 (n : Int)], row (pb) 182 (((PC.setIfInBounds 287 (.int .i64 ((i : Int) + 1))).setIfInBounds 106 (.slice (some ⟨nd4, 0, none⟩) (n + 1) (n + 1 + nd5))).setIfInBounds 199 (.slice (some ⟨nd6, 0, none⟩) 1 (1 + nd7))), row (nd4) 201 (full symZ (symL (st ++ [syk (tn i) 27])) nd5), row (ms) 194 (MC.setIfInBounds 5 (.slice (some ⟨nd8, 0, none⟩) 1 (1 + nd9))), row (nd6) 295 (full trfZ [.nilIface, .int .i32 0, .int .u32 src, .int .u32 (n : Int)] nd7), row (nd8) 58 (full refZ [.int .u32 src, .int .u32 (n : Int)] nd9), row (B1_1) 29 #[.iface 56 (.pointer (some ⟨vi, 0, none⟩)), .int .i32 li], row (B1) 29 #[.iface 56 (.pointer (some ⟨B10_2, 0, none⟩)), .int .i32 0], row (xp) 22 #[.pointer (some ⟨pb, 0, none⟩)], row (xd) 214 #[.int .u8 0], row (xa) 210 #[.func (Fn.func 25) #[] #[.pointer (some ⟨eb, 0, none⟩)]], row (xv) 247 #[.func (Fn.func 45) #[] #[.pointer (some ⟨xm, 0, none⟩), .pointer (some ⟨xs, 0, none⟩), .pointer (some ⟨xr, 0, none⟩), .pointer (some ⟨xp, 0, none⟩), .pointer (some ⟨xo, 0, none⟩), .pointer (some ⟨xa, 0, none⟩)]], row (xm) 246 #[.map (some mb)], row (xr) 251 #[.func (Fn.func 42) #[] #[.pointer (some ⟨xc, 0, none⟩), .pointer (some ⟨xa, 0, none⟩), .pointer (some ⟨xp, 0, none⟩)]], ((mb, .map (imA [(202, ob), (205, ab)]) 2) : Rw), row (eb) 29 #[.nilIface, .int .i32 wa], row (jb) 29 (full exZ JL cj), row (ob) 204 #[.slice (some ⟨pr, 0, none⟩) 1 (1 + cp), .int .i32 0, .int .i32 0, .bool false, .bool false], row (pr) 52 (full prZ [.pointer none, .nilIface, .int .i32 0, .iface 56 (.pointer (some ⟨vb, 0, none⟩)), .int .i32 0, .nilIface, .int .i32 0, .slice none 0 0, .int .i32 0, .int .i32 0, .int .u8 5, .int .u8 0] cp), ((mp, .map es k) : Rw)] X := by
    rw [← hW]
    exact ((hO).alloc' _ (uw12.heap.size) (by simp)).alloc' _ (uw12.heap.size + 1) (by simp)
  clear hW hO
  generalize uw12.heap.size + 1 = B13_1 at hN ⊢
  generalize uw12.heap.size = B13 at hN ⊢
  have hO := hN
  clear hN
  have hL := hO.apart
  have hX := hO.apartX
  have HL := Lib.hid hL
  have HX := Lib.hid hX
  clear hL hX
  have hP9 := hO.pick [7, 8, 9, 10, 11] (by decide)
  have h9_hn : (st ++ [syk (tn i) 27]).length = (n + 1) := (ln1 hn)
  have h9_hnb : (n + 1) ≤ 2000000 := (by omega)
  have h9_hql : ([.nilIface, .int .i32 0, .int .u32 src, .int .u32 (n : Int)] : List Value).length = 1 * 4 := rfl
  have h9_hmb : 1 ≤ 100000 := (by omega)
  have h9_hgl : ([.int .u32 src, .int .u32 (n : Int)] : List Value).length = 1 * 2 := rfl
  have h9_hgb : 1 ≤ 100000 := (by omega)
  have h9_hi : (i + 1) ≤ 100000 := (by omega)
  have T9 := gtR11 pb (((PC.setIfInBounds 287 (.int .i64 ((i : Int) + 1))).setIfInBounds 106 (.slice (some ⟨nd4, 0, none⟩) (n + 1) ((n + 1) + nd5))).setIfInBounds 199 (.slice (some ⟨nd6, 0, none⟩) 1 (1 + nd7))) nd4 nd5 (st ++ [syk (tn i) 27]) (n + 1) src (i + 1) ms (MC.setIfInBounds 5 (.slice (some ⟨nd8, 0, none⟩) 1 (1 + nd9))) nd6 ([.nilIface, .int .i32 0, .int .u32 src, .int .u32 (n : Int)]) nd7 1 nd8 ([.int .u32 src, .int .u32 (n : Int)]) nd9 1 _ _ _ hP9 (get_other (get_other (get_other hk66 (by omega) _) (by omega) _) (by omega) _) (get_other (get_other (get_other hk32 (by omega) _) (by omega) _) (by omega) _) (get_other (get_set (get_other hk106 (by omega) _) _) (by omega) _) h9_hn h9_hnb (get_other (get_other (get_other hk104 (by omega) _) (by omega) _) (by omega) _) (get_other hkind (by omega) _) (get_other (get_other (get_set hk287 _) (by omega) _) (by omega) _) (get_set (get_other (get_other hk199 (by omega) _) (by omega) _) _) (get_set hgen _) h9_hql h9_hmb h9_hgl h9_hgb h9_hi hg0 hg1
  refine Calls.mono T9 ?_
  clear hP9 T9 h9_hn h9_hnb h9_hql h9_hmb h9_hgl h9_hgb h9_hi
  rintro e uw15 ⟨nd16, nd17, nd18, nd19, nd20, nd21, rfl, hQ⟩
  have hN : Own w0 uw15 [row (pb) 182 ((((((PC.setIfInBounds 287 (.int .i64 ((i : Int) + 1))).setIfInBounds 106 (.slice (some ⟨nd4, 0, none⟩) (n + 1) ((n + 1) + nd5))).setIfInBounds 199 (.slice (some ⟨nd6, 0, none⟩) 1 (1 + nd7))).setIfInBounds 287 (.int .i64 (((i + 1) : Int) + 1))).setIfInBounds 106 (.slice (some ⟨nd16, 0, none⟩) ((n + 1) + 1) ((n + 1) + 1 + nd17))).setIfInBounds 199 (.slice (some ⟨nd18, 0, none⟩) (1 + 1) (1 + 1 + nd19))), row (nd16) 201 (full symZ (symL ((st ++ [syk (tn i) 27]) ++ [syk (tn (i + 1)) 27])) nd17), row (ms) 194 ((MC.setIfInBounds 5 (.slice (some ⟨nd8, 0, none⟩) 1 (1 + nd9))).setIfInBounds 5 (.slice (some ⟨nd20, 0, none⟩) (1 + 1) (1 + 1 + nd21))), row (nd18) 295 (full trfZ [.nilIface, .int .i32 0, .int .u32 src, .int .u32 (n : Int), .nilIface, .int .i32 0, .int .u32 src, .int .u32 ((n + 1) : Int)] nd19), row (nd20) 58 (full refZ [.int .u32 src, .int .u32 (n : Int), .int .u32 src, .int .u32 ((n + 1) : Int)] nd21), row (B13_1) 29 #[.nilIface, .int .i32 0], row (B13) 29 #[.nilIface, .int .i32 0], row (ib) 29 (full exZ (putE IL mm [.iface 56 (.pointer (some ⟨B10_2, 0, none⟩)), .int .i32 0]) ci), row (B10_3) 29 #[.iface 56 (.pointer (some ⟨B10_2, 0, none⟩)), .int .i32 0], row (B10_2) 60 #[.int .u32 src, .int .u32 (n : Int), .bool false, .bool false, .bool false], row (B10_1) 29 #[.iface 202 (.pointer (some ⟨ob, 0, none⟩)), .int .i32 0], row (B10) 58 #[.int .u32 src, .int .u32 (n : Int)], row (B1_1) 29 #[.iface 56 (.pointer (some ⟨vi, 0, none⟩)), .int .i32 li], row (B1) 29 #[.iface 56 (.pointer (some ⟨B10_2, 0, none⟩)), .int .i32 0], row (xp) 22 #[.pointer (some ⟨pb, 0, none⟩)], row (xd) 214 #[.int .u8 0], row (xa) 210 #[.func (Fn.func 25) #[] #[.pointer (some ⟨eb, 0, none⟩)]], row (xv) 247 #[.func (Fn.func 45) #[] #[.pointer (some ⟨xm, 0, none⟩), .pointer (some ⟨xs, 0, none⟩), .pointer (some ⟨xr, 0, none⟩), .pointer (some ⟨xp, 0, none⟩), .pointer (some ⟨xo, 0, none⟩), .pointer (some ⟨xa, 0, none⟩)]], row (xm) 246 #[.map (some mb)], row (xr) 251 #[.func (Fn.func 42) #[] #[.pointer (some ⟨xc, 0, none⟩), .pointer (some ⟨xa, 0, none⟩), .pointer (some ⟨xp, 0, none⟩)]], ((mb, .map (imA [(202, ob), (205, ab)]) 2) : Rw), row (eb) 29 #[.nilIface, .int .i32 wa], row (jb) 29 (full exZ JL cj), row (ob) 204 #[.slice (some ⟨pr, 0, none⟩) 1 (1 + cp), .int .i32 0, .int .i32 0, .bool false, .bool false], row (pr) 52 (full prZ [.pointer none, .nilIface, .int .i32 0, .iface 56 (.pointer (some ⟨vb, 0, none⟩)), .int .i32 0, .nilIface, .int .i32 0, .slice none 0 0, .int .i32 0, .int .i32 0, .int .u8 5, .int .u8 0] cp), ((mp, .map es k) : Rw)] X := hQ.back HL.out HX.out [0, 1, 2, 3, 4, 5, 6, 12, 13, 14, 15, 16, 17, 18, 19, 20, 21, 22, 23, 24, 25] (by decide) (by decide)
  clear hQ HL HX hO
  have hO := hN
  clear hN
  obtain ⟨ix9, hix9, hax9, hjx9⟩ := hO.ix
  have ix9_0 : ix9 pb = 0 := hjx9 0 _ _ rfl
  have ix9_1 : ix9 nd16 = 1 := hjx9 1 _ _ rfl
  have ix9_2 : ix9 ms = 2 := hjx9 2 _ _ rfl
  have ix9_3 : ix9 nd18 = 3 := hjx9 3 _ _ rfl
  have ix9_4 : ix9 nd20 = 4 := hjx9 4 _ _ rfl
  have ix9_5 : ix9 B13_1 = 5 := hjx9 5 _ _ rfl
  have ix9_6 : ix9 B13 = 6 := hjx9 6 _ _ rfl
  have ix9_7 : ix9 ib = 7 := hjx9 7 _ _ rfl
  have ix9_8 : ix9 B10_3 = 8 := hjx9 8 _ _ rfl
  have ix9_9 : ix9 B10_2 = 9 := hjx9 9 _ _ rfl
  have ix9_10 : ix9 B10_1 = 10 := hjx9 10 _ _ rfl
  have ix9_11 : ix9 B10 = 11 := hjx9 11 _ _ rfl
  have ix9_12 : ix9 B1_1 = 12 := hjx9 12 _ _ rfl
  have ix9_13 : ix9 B1 = 13 := hjx9 13 _ _ rfl
  have ix9_14 : ix9 xp = 14 := hjx9 14 _ _ rfl
  have ix9_15 : ix9 xd = 15 := hjx9 15 _ _ rfl
  have ix9_16 : ix9 xa = 16 := hjx9 16 _ _ rfl
  have ix9_17 : ix9 xv = 17 := hjx9 17 _ _ rfl
  have ix9_18 : ix9 xm = 18 := hjx9 18 _ _ rfl
  have ix9_19 : ix9 xr = 19 := hjx9 19 _ _ rfl
  have ix9_20 : ix9 mb = 20 := hjx9 20 _ _ rfl
  have ix9_21 : ix9 eb = 21 := hjx9 21 _ _ rfl
  have ix9_22 : ix9 jb = 22 := hjx9 22 _ _ rfl
  have ix9_23 : ix9 ob = 23 := hjx9 23 _ _ rfl
  have ix9_24 : ix9 pr = 24 := hjx9 24 _ _ rfl
  have ix9_25 : ix9 mp = 25 := hjx9 25 _ _ rfl
  clear hjx9
  have c9_0_32 : uw15.cell? ⟨pb, 32, none⟩ = some (.bool false) := hO.cell 0 rfl (32) ((get_other (get_other (get_other (get_other (get_other (get_other hk32 (by omega) _) (by omega) _) (by omega) _) (by omega) _) (by omega) _) (by omega) _))
  have c9_0_66 : uw15.cell? ⟨pb, 66, none⟩ = some (.int .u32 src) := hO.cell 0 rfl (66) ((get_other (get_other (get_other (get_other (get_other (get_other hk66 (by omega) _) (by omega) _) (by omega) _) (by omega) _) (by omega) _) (by omega) _))
  have c9_0_104 : uw15.cell? ⟨pb, 104, none⟩ = some (.pointer (some ⟨ms, 0, none⟩)) := hO.cell 0 rfl (104) ((get_other (get_other (get_other (get_other (get_other (get_other hk104 (by omega) _) (by omega) _) (by omega) _) (by omega) _) (by omega) _) (by omega) _))
  have c9_0_105 : uw15.cell? ⟨pb, 105, none⟩ = some (.pointer none) := hO.cell 0 rfl (105) ((get_other (get_other (get_other (get_other (get_other (get_other hk105 (by omega) _) (by omega) _) (by omega) _) (by omega) _) (by omega) _) (by omega) _))
  have c9_0_106 : uw15.cell? ⟨pb, 106, none⟩ = some (.slice (some ⟨nd16, 0, none⟩) ((n + 1) + 1) ((n + 1) + 1 + nd17)) := hO.cell 0 rfl (106) ((get_other (get_set (get_other (get_other (get_set (get_other hk106 (by omega) _) _) (by omega) _) (by omega) _) _) (by omega) _))
  have c9_0_117 : uw15.cell? ⟨pb, 117, none⟩ = some (.map (some mp)) := hO.cell 0 rfl (117) ((get_other (get_other (get_other (get_other (get_other (get_other hk117 (by omega) _) (by omega) _) (by omega) _) (by omega) _) (by omega) _) (by omega) _))
  have c9_0_187 : uw15.cell? ⟨pb, 187, none⟩ = some (.pointer (some ⟨ms, 0, none⟩)) := hO.cell 0 rfl (187) ((get_other (get_other (get_other (get_other (get_other (get_other hk187 (by omega) _) (by omega) _) (by omega) _) (by omega) _) (by omega) _) (by omega) _))
  have c9_0_199 : uw15.cell? ⟨pb, 199, none⟩ = some (.slice (some ⟨nd18, 0, none⟩) (1 + 1) (1 + 1 + nd19)) := hO.cell 0 rfl (199) ((get_set (get_other (get_other (get_set (get_other (get_other hk199 (by omega) _) (by omega) _) _) (by omega) _) (by omega) _) _))
  have c9_0_287 : uw15.cell? ⟨pb, 287, none⟩ = some (.int .i64 (((i + 1) : Int) + 1)) := hO.cell 0 rfl (287) ((get_other (get_other (get_set (get_other (get_other (get_set hk287 _) (by omega) _) (by omega) _) _) (by omega) _) (by omega) _))
  have c9_0_350 : uw15.cell? ⟨pb, 350, none⟩ = some (.bool false) := hO.cell 0 rfl (350) ((get_other (get_other (get_other (get_other (get_other (get_other hk350 (by omega) _) (by omega) _) (by omega) _) (by omega) _) (by omega) _) (by omega) _))
  have lt9_0 : pb < uw15.heap.size := hO.lt 0 rfl
  have y9_0 : ∀ o, uw15.frozen? ⟨pb, o, none⟩ = false := hO.free 0 rfl
  have c9_2_5 : uw15.cell? ⟨ms, 5, none⟩ = some (.slice (some ⟨nd20, 0, none⟩) (1 + 1) (1 + 1 + nd21)) := hO.cell 2 rfl (5) ((get_set (get_set hgen _) _))
  have c9_2_15 : uw15.cell? ⟨ms, 15, none⟩ = some (.int .u8 6) := hO.cell 2 rfl (15) ((get_other (get_other hkind (by omega) _) (by omega) _))
  have lt9_2 : ms < uw15.heap.size := hO.lt 2 rfl
  have y9_2 : ∀ o, uw15.frozen? ⟨ms, o, none⟩ = false := hO.free 2 rfl
  have c9_3_0 : uw15.cell? ⟨nd18, 0, none⟩ = some (.nilIface) := hO.cell 3 rfl (0) ((full_at rfl))
  have c9_3_1 : uw15.cell? ⟨nd18, 1, none⟩ = some (.int .i32 0) := hO.cell 3 rfl (1) ((full_at rfl))
  have c9_3_2 : uw15.cell? ⟨nd18, 2, none⟩ = some (.int .u32 src) := hO.cell 3 rfl (2) ((full_at rfl))
  have c9_3_3 : uw15.cell? ⟨nd18, 3, none⟩ = some (.int .u32 (n : Int)) := hO.cell 3 rfl (3) ((full_at rfl))
  have c9_3_4 : uw15.cell? ⟨nd18, 4, none⟩ = some (.nilIface) := hO.cell 3 rfl (4) ((full_at rfl))
  have c9_3_5 : uw15.cell? ⟨nd18, 5, none⟩ = some (.int .i32 0) := hO.cell 3 rfl (5) ((full_at rfl))
  have c9_3_6 : uw15.cell? ⟨nd18, 6, none⟩ = some (.int .u32 src) := hO.cell 3 rfl (6) ((full_at rfl))
  have c9_3_7 : uw15.cell? ⟨nd18, 7, none⟩ = some (.int .u32 ((n + 1) : Int)) := hO.cell 3 rfl (7) ((full_at rfl))
  have lt9_3 : nd18 < uw15.heap.size := hO.lt 3 rfl
  have y9_3 : ∀ o, uw15.frozen? ⟨nd18, o, none⟩ = false := hO.free 3 rfl
  have pl9_4 : Base.plainAt uw15 (nd20) = true := hO.plain 4 rfl
  have c9_4_0 : uw15.cell? ⟨nd20, 0, none⟩ = some (.int .u32 src) := hO.cell 4 rfl (0) ((full_at rfl))
  have c9_4_1 : uw15.cell? ⟨nd20, 1, none⟩ = some (.int .u32 (n : Int)) := hO.cell 4 rfl (1) ((full_at rfl))
  have c9_4_2 : uw15.cell? ⟨nd20, 2, none⟩ = some (.int .u32 src) := hO.cell 4 rfl (2) ((full_at rfl))
  have c9_4_3 : uw15.cell? ⟨nd20, 3, none⟩ = some (.int .u32 ((n + 1) : Int)) := hO.cell 4 rfl (3) ((full_at rfl))
  have lt9_4 : nd20 < uw15.heap.size := hO.lt 4 rfl
  have y9_4 : ∀ o, uw15.frozen? ⟨nd20, o, none⟩ = false := hO.free 4 rfl
  obtain ⟨c9_5_0, c9_5_1, lt9_5, y9_5, pl9_5⟩ := hO.k2 5 rfl
  obtain ⟨c9_6_0, c9_6_1, lt9_6, y9_6, pl9_6⟩ := hO.k2 6 rfl
  have pl9_7 : Base.plainAt uw15 (ib) = true := hO.plain 7 rfl
  obtain ⟨c9_8_0, c9_8_1, lt9_8, y9_8, pl9_8⟩ := hO.k2 8 rfl
  obtain ⟨c9_9_0, c9_9_1, c9_9_2, c9_9_3, c9_9_4, lt9_9, y9_9, -⟩ := hO.k5 9 rfl
  obtain ⟨c9_10_0, c9_10_1, lt9_10, y9_10, pl9_10⟩ := hO.k2 10 rfl
  obtain ⟨c9_11_0, c9_11_1, lt9_11, y9_11, pl9_11⟩ := hO.k2 11 rfl
  obtain ⟨c9_12_0, c9_12_1, lt9_12, y9_12, pl9_12⟩ := hO.k2 12 rfl
  obtain ⟨c9_13_0, c9_13_1, lt9_13, y9_13, pl9_13⟩ := hO.k2 13 rfl
  obtain ⟨c9_14_0, lt9_14, y9_14, -⟩ := hO.k1 14 rfl
  obtain ⟨c9_15_0, lt9_15, y9_15, -⟩ := hO.k1 15 rfl
  obtain ⟨c9_16_0, lt9_16, y9_16, -⟩ := hO.k1 16 rfl
  obtain ⟨c9_17_0, lt9_17, y9_17, -⟩ := hO.k1 17 rfl
  obtain ⟨c9_18_0, lt9_18, y9_18, -⟩ := hO.k1 18 rfl
  obtain ⟨c9_19_0, lt9_19, y9_19, -⟩ := hO.k1 19 rfl
  obtain ⟨c9_21_0, c9_21_1, lt9_21, y9_21, pl9_21⟩ := hO.k2 21 rfl
  have pl9_22 : Base.plainAt uw15 (jb) = true := hO.plain 22 rfl
  have c9_22_0 : uw15.cell? ⟨jb, 0, none⟩ = some (.iface 56 (.pointer (some ⟨v9, 0, none⟩))) := hO.cell 22 rfl (0) ((full_at hv0))
  have c9_22_1 : uw15.cell? ⟨jb, 1, none⟩ = some (.int .i32 0) := hO.cell 22 rfl (1) ((full_at hv1))
  have lt9_22 : jb < uw15.heap.size := hO.lt 22 rfl
  have y9_22 : ∀ o, uw15.frozen? ⟨jb, o, none⟩ = false := hO.free 22 rfl
  obtain ⟨c9_23_0, c9_23_1, c9_23_2, c9_23_3, c9_23_4, lt9_23, y9_23, -⟩ := hO.k5 23 rfl
  have c9_24_0 : uw15.cell? ⟨pr, 0, none⟩ = some (.pointer none) := hO.cell 24 rfl (0) ((full_at rfl))
  have c9_24_1 : uw15.cell? ⟨pr, 1, none⟩ = some (.nilIface) := hO.cell 24 rfl (1) ((full_at rfl))
  have c9_24_2 : uw15.cell? ⟨pr, 2, none⟩ = some (.int .i32 0) := hO.cell 24 rfl (2) ((full_at rfl))
  have c9_24_3 : uw15.cell? ⟨pr, 3, none⟩ = some (.iface 56 (.pointer (some ⟨vb, 0, none⟩))) := hO.cell 24 rfl (3) ((full_at rfl))
  have c9_24_4 : uw15.cell? ⟨pr, 4, none⟩ = some (.int .i32 0) := hO.cell 24 rfl (4) ((full_at rfl))
  have c9_24_5 : uw15.cell? ⟨pr, 5, none⟩ = some (.nilIface) := hO.cell 24 rfl (5) ((full_at rfl))
  have c9_24_6 : uw15.cell? ⟨pr, 6, none⟩ = some (.int .i32 0) := hO.cell 24 rfl (6) ((full_at rfl))
  have c9_24_7 : uw15.cell? ⟨pr, 7, none⟩ = some (.slice none 0 0) := hO.cell 24 rfl (7) ((full_at rfl))
  have c9_24_8 : uw15.cell? ⟨pr, 8, none⟩ = some (.int .i32 0) := hO.cell 24 rfl (8) ((full_at rfl))
  have c9_24_9 : uw15.cell? ⟨pr, 9, none⟩ = some (.int .i32 0) := hO.cell 24 rfl (9) ((full_at rfl))
  have c9_24_10 : uw15.cell? ⟨pr, 10, none⟩ = some (.int .u8 5) := hO.cell 24 rfl (10) ((full_at rfl))
  have c9_24_11 : uw15.cell? ⟨pr, 11, none⟩ = some (.int .u8 0) := hO.cell 24 rfl (11) ((full_at rfl))
  have lt9_24 : pr < uw15.heap.size := hO.lt 24 rfl
  have y9_24 : ∀ o, uw15.frozen? ⟨pr, o, none⟩ = false := hO.free 24 rfl
  have HO := Lib.hid hO
  clear hO
  go_wp2_with (first | (with_reducible refine Own.stay (fn := Tryz.f43) ?_) | (at_builtin; refine Own.appStop ?_) | fail)
  try with_reducible refine Own.Stay.mk ?_
  have hO := HO.out
  clear HO hix9 hax9 ix9_0 ix9_1 ix9_2 ix9_3 ix9_4 ix9_5 ix9_6 ix9_7 ix9_8 ix9_9 ix9_10 ix9_11 ix9_12 ix9_13 ix9_14 ix9_15 ix9_16 ix9_17 ix9_18 ix9_19 ix9_20 ix9_21 ix9_22 ix9_23 ix9_24 ix9_25 ix9 c9_0_32 c9_0_66 c9_0_104 c9_0_105 c9_0_106 c9_0_117 c9_0_187 c9_0_199 c9_0_287 c9_0_350 lt9_0 y9_0 c9_2_5 c9_2_15 lt9_2 y9_2 c9_3_0 c9_3_1 c9_3_2 c9_3_3 c9_3_4 c9_3_5 c9_3_6 c9_3_7 lt9_3 y9_3 pl9_4 c9_4_0 c9_4_1 c9_4_2 c9_4_3 lt9_4 y9_4 c9_5_0 c9_5_1 lt9_5 y9_5 pl9_5 c9_6_0 c9_6_1 lt9_6 y9_6 pl9_6 pl9_7 c9_8_0 c9_8_1 lt9_8 y9_8 pl9_8 c9_9_0 c9_9_1 c9_9_2 c9_9_3 c9_9_4 lt9_9 y9_9 c9_10_0 c9_10_1 lt9_10 y9_10 pl9_10 c9_11_0 c9_11_1 lt9_11 y9_11 pl9_11 c9_12_0 c9_12_1 lt9_12 y9_12 pl9_12 c9_13_0 c9_13_1 lt9_13 y9_13 pl9_13 c9_14_0 lt9_14 y9_14 c9_15_0 lt9_15 y9_15 c9_16_0 lt9_16 y9_16 c9_17_0 lt9_17 y9_17 c9_18_0 lt9_18 y9_18 c9_19_0 lt9_19 y9_19 c9_21_0 c9_21_1 lt9_21 y9_21 pl9_21 pl9_22 c9_22_0 c9_22_1 lt9_22 y9_22 c9_23_0 c9_23_1 c9_23_2 c9_23_3 c9_23_4 lt9_23 y9_23 c9_24_0 c9_24_1 c9_24_2 c9_24_3 c9_24_4 c9_24_5 c9_24_6 c9_24_7 c9_24_8 c9_24_9 c9_24_10 c9_24_11 lt9_24 y9_24
  generalize hW : World.alloc _ _ = W23
  have hN : Own w0 W23 [row (uw15.heap.size + 1 + 1 + 1 + 1 + 1 + 1) 29 #[.iface 218 (.pointer (some ⟨uw15.heap.size + 1 + 1 + 1 + 1 + 1, 0, none⟩)), .int .i32 0], row (uw15.heap.size + 1 + 1 + 1 + 1 + 1) 220 #[.iface 56 (.pointer (some ⟨uw15.heap.size + 1 + 1 + 1 + 1, 0, none⟩)), .int .i32 0], row (uw15.heap.size + 1 + 1 + 1 + 1) 60 #[.int .u32 src, .int .u32 ((n : Int) + 1), .bool false, .bool false, .bool false], row (uw15.heap.size + 1 + 1 + 1) 60 #[.int .u32 src, .int .u32 ((n : Int) + 1), .bool false, .bool false, .bool false], row (uw15.heap.size + 1 + 1) 207 #[.slice (some ⟨jb, 0, none⟩) (tt + 1) (tt + 1 + cj), .int .i32 0, .int .i32 0, .bool false, .bool false], row (uw15.heap.size + 1) 27 #[.int .i32 0], row (uw15.heap.size) 58 #[.int .u32 src, .int .u32 ((n : Int) + 1)], row (pb) 182 ((((((PC.setIfInBounds 287 (.int .i64 ((i : Int) + 1))).setIfInBounds 106 (.slice (some ⟨nd4, 0, none⟩) (n + 1) ((n + 1) + nd5))).setIfInBounds 199 (.slice (some ⟨nd6, 0, none⟩) 1 (1 + nd7))).setIfInBounds 287 (.int .i64 (((i + 1) : Int) + 1))).setIfInBounds 106 (.slice (some ⟨nd16, 0, none⟩) ((n + 1) + 1) ((n + 1) + 1 + nd17))).setIfInBounds 199 (.slice (some ⟨nd18, 0, none⟩) (1 + 1) (1 + 1 + nd19))), row (nd16) 201 (full symZ (symL ((st ++ [syk (tn i) 27]) ++ [syk (tn (i + 1)) 27])) nd17), row (ms) 194 ((MC.setIfInBounds 5 (.slice (some ⟨nd8, 0, none⟩) 1 (1 + nd9))).setIfInBounds 5 (.slice (some ⟨nd20, 0, none⟩) (1 + 1) (1 + 1 + nd21))), row (nd18) 295 (full trfZ [.nilIface, .int .i32 0, .int .u32 src, .int .u32 (n : Int), .nilIface, .int .i32 0, .int .u32 src, .int .u32 ((n + 1) : Int)] nd19), row (nd20) 58 (full refZ [.int .u32 src, .int .u32 (n : Int), .int .u32 src, .int .u32 ((n + 1) : Int)] nd21), row (B13_1) 29 #[.iface 56 (.pointer (some ⟨uw15.heap.size + 1 + 1 + 1, 0, none⟩)), .int .i32 0], row (B13) 29 #[.iface 205 (.pointer (some ⟨uw15.heap.size + 1 + 1, 0, none⟩)), .int .i32 0], row (ib) 29 (full exZ (putE IL mm [.iface 56 (.pointer (some ⟨B10_2, 0, none⟩)), .int .i32 0]) ci), row (B10_3) 29 #[.iface 56 (.pointer (some ⟨B10_2, 0, none⟩)), .int .i32 0], row (B10_2) 60 #[.int .u32 src, .int .u32 (n : Int), .bool false, .bool false, .bool false], row (B10_1) 29 #[.iface 202 (.pointer (some ⟨ob, 0, none⟩)), .int .i32 0], row (B10) 58 #[.int .u32 src, .int .u32 (n : Int)], row (B1_1) 29 #[.iface 56 (.pointer (some ⟨vi, 0, none⟩)), .int .i32 li], row (B1) 29 #[.iface 56 (.pointer (some ⟨B10_2, 0, none⟩)), .int .i32 0], row (xp) 22 #[.pointer (some ⟨pb, 0, none⟩)], row (xd) 214 #[.int .u8 0], row (xa) 210 #[.func (Fn.func 25) #[] #[.pointer (some ⟨eb, 0, none⟩)]], row (xv) 247 #[.func (Fn.func 45) #[] #[.pointer (some ⟨xm, 0, none⟩), .pointer (some ⟨xs, 0, none⟩), .pointer (some ⟨xr, 0, none⟩), .pointer (some ⟨xp, 0, none⟩), .pointer (some ⟨xo, 0, none⟩), .pointer (some ⟨xa, 0, none⟩)]], row (xm) 246 #[.map (some mb)], row (xr) 251 #[.func (Fn.func 42) #[] #[.pointer (some ⟨xc, 0, none⟩), .pointer (some ⟨xa, 0, none⟩), .pointer (some ⟨xp, 0, none⟩)]], ((mb, .map (imA [(202, ob), (205, ab)]) 2) : Rw), row (eb) 29 #[.nilIface, .int .i32 wa], row (jb) 29 (full exZ JL cj), row (ob) 204 #[.slice (some ⟨pr, 0, none⟩) 1 (1 + cp), .int .i32 0, .int .i32 0, .bool false, .bool false], row (pr) 52 (full prZ [.pointer none, .nilIface, .int .i32 0, .iface 56 (.pointer (some ⟨vb, 0, none⟩)), .int .i32 0, .nilIface, .int .i32 0, .slice none 0 0, .int .i32 0, .int .i32 0, .int .u8 5, .int .u8 0] cp), ((mp, .map es k) : Rw)] X := by
    rw [← hW]
    exact (((((((((((hO).alloc' _ (uw15.heap.size) (by simp)).alloc' _ (uw15.heap.size + 1) (by simp)).alloc' _ (uw15.heap.size + 1 + 1) (by simp)).set 9 rfl 0 _).set 9 rfl 1 _).alloc' _ (uw15.heap.size + 1 + 1 + 1) (by simp)).set 9 rfl 0 _).set 9 rfl 1 _).alloc' _ (uw15.heap.size + 1 + 1 + 1 + 1) (by simp)).alloc' _ (uw15.heap.size + 1 + 1 + 1 + 1 + 1) (by simp)).alloc' _ (uw15.heap.size + 1 + 1 + 1 + 1 + 1 + 1) (by simp)
  clear hW hO
  generalize uw15.heap.size + 1 + 1 + 1 + 1 + 1 + 1 = B22_6 at hN ⊢
  generalize uw15.heap.size + 1 + 1 + 1 + 1 + 1 = B22_5 at hN ⊢
  generalize uw15.heap.size + 1 + 1 + 1 + 1 = B22_4 at hN ⊢
  generalize uw15.heap.size + 1 + 1 + 1 = B22_3 at hN ⊢
  generalize uw15.heap.size + 1 + 1 = B22_2 at hN ⊢
  generalize uw15.heap.size + 1 = B22_1 at hN ⊢
  generalize uw15.heap.size = B22 at hN ⊢
  have hO := hN
  clear hN
  have hL2 : ((putE IL mm [.iface 56 (.pointer (some ⟨B10_2, 0, none⟩)), .int .i32 0])).length = (mm + 1 + (tt + 1)) * 2 := by rw [putE_length (by simp only [List.length_cons, List.length_nil]; omega), hlen]
  refine Own.AppStop.mk ?_
  obtain ⟨i9, hi9, z1, z2, z3⟩ := info_parts infoEx
  have hL := hO.apart
  have hX := hO.apartX
  have HL := Lib.hid hL
  have HX := Lib.hid hX
  clear hL hX
  have hP9 := hO.pick [14, 0] (by decide)
  refine Own.wpList_append_in rfl (.tmp 83) (.tmp 95) 45 rfl 29 i9 (.agg exZ) 2 24 Tryz.underlying45 hi9 z1 z2 hP9 rfl rfl (by rw [hL2]; show (mm + 1) * 2 + 2 ≤ _; omega) (by omega) rfl (oneAll rfl) ?_
  intro uw24 hQ
  clear hP9
  have hN : Own w0 uw24 [row (ib) 29 (full exZ (putE (putE IL mm [.iface 56 (.pointer (some ⟨B10_2, 0, none⟩)), .int .i32 0]) (mm + 1) [.iface 218 (.pointer (some ⟨B22_5, 0, none⟩)), .int .i32 0]) ci), row (B22_6) 29 #[.iface 218 (.pointer (some ⟨B22_5, 0, none⟩)), .int .i32 0], row (B22_5) 220 #[.iface 56 (.pointer (some ⟨B22_4, 0, none⟩)), .int .i32 0], row (B22_4) 60 #[.int .u32 src, .int .u32 ((n : Int) + 1), .bool false, .bool false, .bool false], row (B22_3) 60 #[.int .u32 src, .int .u32 ((n : Int) + 1), .bool false, .bool false, .bool false], row (B22_2) 207 #[.slice (some ⟨jb, 0, none⟩) (tt + 1) (tt + 1 + cj), .int .i32 0, .int .i32 0, .bool false, .bool false], row (B22_1) 27 #[.int .i32 0], row (B22) 58 #[.int .u32 src, .int .u32 ((n : Int) + 1)], row (pb) 182 ((((((PC.setIfInBounds 287 (.int .i64 ((i : Int) + 1))).setIfInBounds 106 (.slice (some ⟨nd4, 0, none⟩) (n + 1) ((n + 1) + nd5))).setIfInBounds 199 (.slice (some ⟨nd6, 0, none⟩) 1 (1 + nd7))).setIfInBounds 287 (.int .i64 (((i + 1) : Int) + 1))).setIfInBounds 106 (.slice (some ⟨nd16, 0, none⟩) ((n + 1) + 1) ((n + 1) + 1 + nd17))).setIfInBounds 199 (.slice (some ⟨nd18, 0, none⟩) (1 + 1) (1 + 1 + nd19))), row (nd16) 201 (full symZ (symL ((st ++ [syk (tn i) 27]) ++ [syk (tn (i + 1)) 27])) nd17), row (ms) 194 ((MC.setIfInBounds 5 (.slice (some ⟨nd8, 0, none⟩) 1 (1 + nd9))).setIfInBounds 5 (.slice (some ⟨nd20, 0, none⟩) (1 + 1) (1 + 1 + nd21))), row (nd18) 295 (full trfZ [.nilIface, .int .i32 0, .int .u32 src, .int .u32 (n : Int), .nilIface, .int .i32 0, .int .u32 src, .int .u32 ((n + 1) : Int)] nd19), row (nd20) 58 (full refZ [.int .u32 src, .int .u32 (n : Int), .int .u32 src, .int .u32 ((n + 1) : Int)] nd21), row (B13_1) 29 #[.iface 56 (.pointer (some ⟨B22_3, 0, none⟩)), .int .i32 0], row (B13) 29 #[.iface 205 (.pointer (some ⟨B22_2, 0, none⟩)), .int .i32 0], row (B10_3) 29 #[.iface 56 (.pointer (some ⟨B10_2, 0, none⟩)), .int .i32 0], row (B10_2) 60 #[.int .u32 src, .int .u32 (n : Int), .bool false, .bool false, .bool false], row (B10_1) 29 #[.iface 202 (.pointer (some ⟨ob, 0, none⟩)), .int .i32 0], row (B10) 58 #[.int .u32 src, .int .u32 (n : Int)], row (B1_1) 29 #[.iface 56 (.pointer (some ⟨vi, 0, none⟩)), .int .i32 li], row (B1) 29 #[.iface 56 (.pointer (some ⟨B10_2, 0, none⟩)), .int .i32 0], row (xp) 22 #[.pointer (some ⟨pb, 0, none⟩)], row (xd) 214 #[.int .u8 0], row (xa) 210 #[.func (Fn.func 25) #[] #[.pointer (some ⟨eb, 0, none⟩)]], row (xv) 247 #[.func (Fn.func 45) #[] #[.pointer (some ⟨xm, 0, none⟩), .pointer (some ⟨xs, 0, none⟩), .pointer (some ⟨xr, 0, none⟩), .pointer (some ⟨xp, 0, none⟩), .pointer (some ⟨xo, 0, none⟩), .pointer (some ⟨xa, 0, none⟩)]], row (xm) 246 #[.map (some mb)], row (xr) 251 #[.func (Fn.func 42) #[] #[.pointer (some ⟨xc, 0, none⟩), .pointer (some ⟨xa, 0, none⟩), .pointer (some ⟨xp, 0, none⟩)]], ((mb, .map (imA [(202, ob), (205, ab)]) 2) : Rw), row (eb) 29 #[.nilIface, .int .i32 wa], row (jb) 29 (full exZ JL cj), row (ob) 204 #[.slice (some ⟨pr, 0, none⟩) 1 (1 + cp), .int .i32 0, .int .i32 0, .bool false, .bool false], row (pr) 52 (full prZ [.pointer none, .nilIface, .int .i32 0, .iface 56 (.pointer (some ⟨vb, 0, none⟩)), .int .i32 0, .nilIface, .int .i32 0, .slice none 0 0, .int .i32 0, .int .i32 0, .int .u8 5, .int .u8 0] cp), ((mp, .map es k) : Rw)] X := hQ.back HL.out HX.out [1, 2, 3, 4, 5, 6, 7, 8, 9, 10, 11, 12, 13, 15, 16, 17, 18, 19, 20, 21, 22, 23, 24, 25, 26, 27, 28, 29, 30, 31, 32] (by decide) (by decide)
  clear hQ HL HX hO
  have hO := hN
  clear hN
  obtain ⟨c9_1_0, c9_1_1, lt9_1, y9_1, -⟩ := hO.k2 1 rfl
  obtain ⟨c9_2_0, c9_2_1, lt9_2, y9_2, -⟩ := hO.k2 2 rfl
  obtain ⟨c9_3_0, c9_3_1, c9_3_2, c9_3_3, c9_3_4, lt9_3, y9_3, -⟩ := hO.k5 3 rfl
  obtain ⟨c9_4_0, c9_4_1, c9_4_2, c9_4_3, c9_4_4, lt9_4, y9_4, -⟩ := hO.k5 4 rfl
  obtain ⟨c9_5_0, c9_5_1, c9_5_2, c9_5_3, c9_5_4, lt9_5, y9_5, -⟩ := hO.k5 5 rfl
  obtain ⟨c9_6_0, lt9_6, y9_6, -⟩ := hO.k1 6 rfl
  obtain ⟨c9_7_0, c9_7_1, lt9_7, y9_7, -⟩ := hO.k2 7 rfl
  obtain ⟨c9_13_0, c9_13_1, lt9_13, y9_13, -⟩ := hO.k2 13 rfl
  obtain ⟨c9_14_0, c9_14_1, lt9_14, y9_14, -⟩ := hO.k2 14 rfl
  obtain ⟨c9_15_0, c9_15_1, lt9_15, y9_15, -⟩ := hO.k2 15 rfl
  obtain ⟨c9_16_0, c9_16_1, c9_16_2, c9_16_3, c9_16_4, lt9_16, y9_16, -⟩ := hO.k5 16 rfl
  obtain ⟨c9_17_0, c9_17_1, lt9_17, y9_17, -⟩ := hO.k2 17 rfl
  obtain ⟨c9_18_0, c9_18_1, lt9_18, y9_18, -⟩ := hO.k2 18 rfl
  obtain ⟨c9_19_0, c9_19_1, lt9_19, y9_19, -⟩ := hO.k2 19 rfl
  obtain ⟨c9_20_0, c9_20_1, lt9_20, y9_20, -⟩ := hO.k2 20 rfl
  obtain ⟨c9_21_0, lt9_21, y9_21, -⟩ := hO.k1 21 rfl
  obtain ⟨c9_22_0, lt9_22, y9_22, -⟩ := hO.k1 22 rfl
  obtain ⟨c9_23_0, lt9_23, y9_23, -⟩ := hO.k1 23 rfl
  obtain ⟨c9_24_0, lt9_24, y9_24, -⟩ := hO.k1 24 rfl
  obtain ⟨c9_25_0, lt9_25, y9_25, -⟩ := hO.k1 25 rfl
  obtain ⟨c9_26_0, lt9_26, y9_26, -⟩ := hO.k1 26 rfl
  obtain ⟨c9_28_0, c9_28_1, lt9_28, y9_28, -⟩ := hO.k2 28 rfl
  obtain ⟨c9_30_0, c9_30_1, c9_30_2, c9_30_3, c9_30_4, lt9_30, y9_30, -⟩ := hO.k5 30 rfl
  have HO := Lib.hid hO
  clear hO
  go_wp2_with (first | (with_reducible refine Own.stay (fn := Tryz.f43) ?_) | (at_builtin; refine Own.appStop ?_) | fail)
  try with_reducible refine Own.Stay.mk ?_
  have hO := HO.out
  clear HO c9_1_0 c9_1_1 lt9_1 y9_1 c9_2_0 c9_2_1 lt9_2 y9_2 c9_3_0 c9_3_1 c9_3_2 c9_3_3 c9_3_4 lt9_3 y9_3 c9_4_0 c9_4_1 c9_4_2 c9_4_3 c9_4_4 lt9_4 y9_4 c9_5_0 c9_5_1 c9_5_2 c9_5_3 c9_5_4 lt9_5 y9_5 c9_6_0 lt9_6 y9_6 c9_7_0 c9_7_1 lt9_7 y9_7 c9_13_0 c9_13_1 lt9_13 y9_13 c9_14_0 c9_14_1 lt9_14 y9_14 c9_15_0 c9_15_1 lt9_15 y9_15 c9_16_0 c9_16_1 c9_16_2 c9_16_3 c9_16_4 lt9_16 y9_16 c9_17_0 c9_17_1 lt9_17 y9_17 c9_18_0 c9_18_1 lt9_18 y9_18 c9_19_0 c9_19_1 lt9_19 y9_19 c9_20_0 c9_20_1 lt9_20 y9_20 c9_21_0 lt9_21 y9_21 c9_22_0 lt9_22 y9_22 c9_23_0 lt9_23 y9_23 c9_24_0 lt9_24 y9_24 c9_25_0 lt9_25 y9_25 c9_26_0 lt9_26 y9_26 c9_28_0 c9_28_1 lt9_28 y9_28 c9_30_0 c9_30_1 c9_30_2 c9_30_3 c9_30_4 lt9_30 y9_30
  have hL := hO.apart
  have hX := hO.apartX
  have HL := Lib.hid hL
  have HX := Lib.hid hX
  clear hL hX
  have hP9 := hO.pick [8, 9] (by decide)
  have h9_hn : ((st ++ [syk (tn i) 27]) ++ [syk (tn (i + 1)) 27]).length = ((n + 1) + 1) := (ln1 (ln1 hn))
  have h9_hnb : ((n + 1) + 1) ≤ 4000000 := (by omega)
  have h9_hu : ∃ s, ((st ++ [syk (tn i) 27]) ++ [syk (tn (i + 1)) 27])[(n + 1)]? = some s ∧ s.uc < 4294967295 := (HUB.out.snoc.snoc.use (by rw [ln1 (ln1 hn)]; omega) (by omega))
  have T9 := useG pb ((((((PC.setIfInBounds 287 (.int .i64 ((i : Int) + 1))).setIfInBounds 106 (.slice (some ⟨nd4, 0, none⟩) (n + 1) ((n + 1) + nd5))).setIfInBounds 199 (.slice (some ⟨nd6, 0, none⟩) 1 (1 + nd7))).setIfInBounds 287 (.int .i64 (((i + 1) : Int) + 1))).setIfInBounds 106 (.slice (some ⟨nd16, 0, none⟩) ((n + 1) + 1) (((n + 1) + 1) + nd17))).setIfInBounds 199 (.slice (some ⟨nd18, 0, none⟩) (1 + 1) ((1 + 1) + nd19))) nd16 nd17 ((st ++ [syk (tn i) 27]) ++ [syk (tn (i + 1)) 27]) ((n + 1) + 1) src (n + 1) _ _ _ hP9 (get_other (get_other (get_other (get_other (get_other (get_other hk350 (by omega) _) (by omega) _) (by omega) _) (by omega) _) (by omega) _) (by omega) _) (get_other (get_other (get_other (get_other (get_other (get_other hk32 (by omega) _) (by omega) _) (by omega) _) (by omega) _) (by omega) _) (by omega) _) (get_other (get_other (get_other (get_other (get_other (get_other hk105 (by omega) _) (by omega) _) (by omega) _) (by omega) _) (by omega) _) (by omega) _) (get_other (get_set (get_other (get_other (get_set (get_other hk106 (by omega) _) _) (by omega) _) (by omega) _) _) (by omega) _) h9_hn h9_hnb h9_hu
  refine Calls.mono T9 ?_
  clear hP9 T9 h9_hn h9_hnb h9_hu
  rintro e uw25 ⟨rfl, hQ⟩
  have hN : Own w0 uw25 [row (pb) 182 ((((((PC.setIfInBounds 287 (.int .i64 ((i : Int) + 1))).setIfInBounds 106 (.slice (some ⟨nd4, 0, none⟩) (n + 1) ((n + 1) + nd5))).setIfInBounds 199 (.slice (some ⟨nd6, 0, none⟩) 1 (1 + nd7))).setIfInBounds 287 (.int .i64 (((i + 1) : Int) + 1))).setIfInBounds 106 (.slice (some ⟨nd16, 0, none⟩) ((n + 1) + 1) (((n + 1) + 1) + nd17))).setIfInBounds 199 (.slice (some ⟨nd18, 0, none⟩) (1 + 1) ((1 + 1) + nd19))), row (nd16) 201 (full symZ (symL (bump ((st ++ [syk (tn i) 27]) ++ [syk (tn (i + 1)) 27]) (n + 1))) nd17), row (ib) 29 (full exZ (putE (putE IL mm [.iface 56 (.pointer (some ⟨B10_2, 0, none⟩)), .int .i32 0]) (mm + 1) [.iface 218 (.pointer (some ⟨B22_5, 0, none⟩)), .int .i32 0]) ci), row (B22_6) 29 #[.iface 218 (.pointer (some ⟨B22_5, 0, none⟩)), .int .i32 0], row (B22_5) 220 #[.iface 56 (.pointer (some ⟨B22_4, 0, none⟩)), .int .i32 0], row (B22_4) 60 #[.int .u32 src, .int .u32 ((n : Int) + 1), .bool false, .bool false, .bool false], row (B22_3) 60 #[.int .u32 src, .int .u32 ((n : Int) + 1), .bool false, .bool false, .bool false], row (B22_2) 207 #[.slice (some ⟨jb, 0, none⟩) (tt + 1) (tt + 1 + cj), .int .i32 0, .int .i32 0, .bool false, .bool false], row (B22_1) 27 #[.int .i32 0], row (B22) 58 #[.int .u32 src, .int .u32 ((n : Int) + 1)], row (ms) 194 ((MC.setIfInBounds 5 (.slice (some ⟨nd8, 0, none⟩) 1 (1 + nd9))).setIfInBounds 5 (.slice (some ⟨nd20, 0, none⟩) (1 + 1) (1 + 1 + nd21))), row (nd18) 295 (full trfZ [.nilIface, .int .i32 0, .int .u32 src, .int .u32 (n : Int), .nilIface, .int .i32 0, .int .u32 src, .int .u32 ((n + 1) : Int)] nd19), row (nd20) 58 (full refZ [.int .u32 src, .int .u32 (n : Int), .int .u32 src, .int .u32 ((n + 1) : Int)] nd21), row (B13_1) 29 #[.iface 56 (.pointer (some ⟨B22_3, 0, none⟩)), .int .i32 0], row (B13) 29 #[.iface 205 (.pointer (some ⟨B22_2, 0, none⟩)), .int .i32 0], row (B10_3) 29 #[.iface 56 (.pointer (some ⟨B10_2, 0, none⟩)), .int .i32 0], row (B10_2) 60 #[.int .u32 src, .int .u32 (n : Int), .bool false, .bool false, .bool false], row (B10_1) 29 #[.iface 202 (.pointer (some ⟨ob, 0, none⟩)), .int .i32 0], row (B10) 58 #[.int .u32 src, .int .u32 (n : Int)], row (B1_1) 29 #[.iface 56 (.pointer (some ⟨vi, 0, none⟩)), .int .i32 li], row (B1) 29 #[.iface 56 (.pointer (some ⟨B10_2, 0, none⟩)), .int .i32 0], row (xp) 22 #[.pointer (some ⟨pb, 0, none⟩)], row (xd) 214 #[.int .u8 0], row (xa) 210 #[.func (Fn.func 25) #[] #[.pointer (some ⟨eb, 0, none⟩)]], row (xv) 247 #[.func (Fn.func 45) #[] #[.pointer (some ⟨xm, 0, none⟩), .pointer (some ⟨xs, 0, none⟩), .pointer (some ⟨xr, 0, none⟩), .pointer (some ⟨xp, 0, none⟩), .pointer (some ⟨xo, 0, none⟩), .pointer (some ⟨xa, 0, none⟩)]], row (xm) 246 #[.map (some mb)], row (xr) 251 #[.func (Fn.func 42) #[] #[.pointer (some ⟨xc, 0, none⟩), .pointer (some ⟨xa, 0, none⟩), .pointer (some ⟨xp, 0, none⟩)]], ((mb, .map (imA [(202, ob), (205, ab)]) 2) : Rw), row (eb) 29 #[.nilIface, .int .i32 wa], row (jb) 29 (full exZ JL cj), row (ob) 204 #[.slice (some ⟨pr, 0, none⟩) 1 (1 + cp), .int .i32 0, .int .i32 0, .bool false, .bool false], row (pr) 52 (full prZ [.pointer none, .nilIface, .int .i32 0, .iface 56 (.pointer (some ⟨vb, 0, none⟩)), .int .i32 0, .nilIface, .int .i32 0, .slice none 0 0, .int .i32 0, .int .i32 0, .int .u8 5, .int .u8 0] cp), ((mp, .map es k) : Rw)] X := hQ.back HL.out HX.out [0, 1, 2, 3, 4, 5, 6, 7, 10, 11, 12, 13, 14, 15, 16, 17, 18, 19, 20, 21, 22, 23, 24, 25, 26, 27, 28, 29, 30, 31, 32] (by decide) (by decide)
  clear hQ HL HX hO
  have hO := hN
  clear hN
  obtain ⟨c9_3_0, c9_3_1, lt9_3, y9_3, -⟩ := hO.k2 3 rfl
  obtain ⟨c9_4_0, c9_4_1, lt9_4, y9_4, -⟩ := hO.k2 4 rfl
  obtain ⟨c9_5_0, c9_5_1, c9_5_2, c9_5_3, c9_5_4, lt9_5, y9_5, -⟩ := hO.k5 5 rfl
  obtain ⟨c9_6_0, c9_6_1, c9_6_2, c9_6_3, c9_6_4, lt9_6, y9_6, -⟩ := hO.k5 6 rfl
  obtain ⟨c9_7_0, c9_7_1, c9_7_2, c9_7_3, c9_7_4, lt9_7, y9_7, -⟩ := hO.k5 7 rfl
  obtain ⟨c9_8_0, lt9_8, y9_8, -⟩ := hO.k1 8 rfl
  obtain ⟨c9_9_0, c9_9_1, lt9_9, y9_9, -⟩ := hO.k2 9 rfl
  obtain ⟨c9_13_0, c9_13_1, lt9_13, y9_13, -⟩ := hO.k2 13 rfl
  obtain ⟨c9_14_0, c9_14_1, lt9_14, y9_14, -⟩ := hO.k2 14 rfl
  obtain ⟨c9_15_0, c9_15_1, lt9_15, y9_15, -⟩ := hO.k2 15 rfl
  obtain ⟨c9_16_0, c9_16_1, c9_16_2, c9_16_3, c9_16_4, lt9_16, y9_16, -⟩ := hO.k5 16 rfl
  obtain ⟨c9_17_0, c9_17_1, lt9_17, y9_17, -⟩ := hO.k2 17 rfl
  obtain ⟨c9_18_0, c9_18_1, lt9_18, y9_18, -⟩ := hO.k2 18 rfl
  obtain ⟨c9_19_0, c9_19_1, lt9_19, y9_19, -⟩ := hO.k2 19 rfl
  obtain ⟨c9_20_0, c9_20_1, lt9_20, y9_20, -⟩ := hO.k2 20 rfl
  obtain ⟨c9_21_0, lt9_21, y9_21, -⟩ := hO.k1 21 rfl
  obtain ⟨c9_22_0, lt9_22, y9_22, -⟩ := hO.k1 22 rfl
  obtain ⟨c9_23_0, lt9_23, y9_23, -⟩ := hO.k1 23 rfl
  obtain ⟨c9_24_0, lt9_24, y9_24, -⟩ := hO.k1 24 rfl
  obtain ⟨c9_25_0, lt9_25, y9_25, -⟩ := hO.k1 25 rfl
  obtain ⟨c9_26_0, lt9_26, y9_26, -⟩ := hO.k1 26 rfl
  obtain ⟨c9_28_0, c9_28_1, lt9_28, y9_28, -⟩ := hO.k2 28 rfl
  obtain ⟨c9_30_0, c9_30_1, c9_30_2, c9_30_3, c9_30_4, lt9_30, y9_30, -⟩ := hO.k5 30 rfl
  have HO := Lib.hid hO
  clear hO
  go_wp2_with (first | (with_reducible refine Own.stay (fn := Tryz.f43) ?_) | (at_builtin; refine Own.appStop ?_) | fail)
  try with_reducible refine Own.Stay.mk ?_
  have hO := HO.out
  clear HO c9_3_0 c9_3_1 lt9_3 y9_3 c9_4_0 c9_4_1 lt9_4 y9_4 c9_5_0 c9_5_1 c9_5_2 c9_5_3 c9_5_4 lt9_5 y9_5 c9_6_0 c9_6_1 c9_6_2 c9_6_3 c9_6_4 lt9_6 y9_6 c9_7_0 c9_7_1 c9_7_2 c9_7_3 c9_7_4 lt9_7 y9_7 c9_8_0 lt9_8 y9_8 c9_9_0 c9_9_1 lt9_9 y9_9 c9_13_0 c9_13_1 lt9_13 y9_13 c9_14_0 c9_14_1 lt9_14 y9_14 c9_15_0 c9_15_1 lt9_15 y9_15 c9_16_0 c9_16_1 c9_16_2 c9_16_3 c9_16_4 lt9_16 y9_16 c9_17_0 c9_17_1 lt9_17 y9_17 c9_18_0 c9_18_1 lt9_18 y9_18 c9_19_0 c9_19_1 lt9_19 y9_19 c9_20_0 c9_20_1 lt9_20 y9_20 c9_21_0 lt9_21 y9_21 c9_22_0 lt9_22 y9_22 c9_23_0 lt9_23 y9_23 c9_24_0 lt9_24 y9_24 c9_25_0 lt9_25 y9_25 c9_26_0 lt9_26 y9_26 c9_28_0 c9_28_1 lt9_28 y9_28 c9_30_0 c9_30_1 c9_30_2 c9_30_3 c9_30_4 lt9_30 y9_30
  have hL := hO.apart
  have hX := hO.apartX
  have HL := Lib.hid hL
  have HX := Lib.hid hX
  clear hL hX
  have hP9 := hO.pick [0, 1] (by decide)
  have h9_hn : (bump ((st ++ [syk (tn i) 27]) ++ [syk (tn (i + 1)) 27]) (n + 1)).length = ((n + 1) + 1) := (lnb (ln1 (ln1 hn)))
  have h9_hnb : ((n + 1) + 1) ≤ 4000000 := (by omega)
  have h9_hu : ∃ s, (bump ((st ++ [syk (tn i) 27]) ++ [syk (tn (i + 1)) 27]) (n + 1))[(n + 1)]? = some s ∧ s.uc < 4294967295 := ((HUB.out.snoc.snoc.bump _).use (by rw [lnb (ln1 (ln1 hn))]; omega) (by omega))
  have T9 := useG pb ((((((PC.setIfInBounds 287 (.int .i64 ((i : Int) + 1))).setIfInBounds 106 (.slice (some ⟨nd4, 0, none⟩) (n + 1) ((n + 1) + nd5))).setIfInBounds 199 (.slice (some ⟨nd6, 0, none⟩) 1 (1 + nd7))).setIfInBounds 287 (.int .i64 (((i + 1) : Int) + 1))).setIfInBounds 106 (.slice (some ⟨nd16, 0, none⟩) ((n + 1) + 1) (((n + 1) + 1) + nd17))).setIfInBounds 199 (.slice (some ⟨nd18, 0, none⟩) (1 + 1) ((1 + 1) + nd19))) nd16 nd17 (bump ((st ++ [syk (tn i) 27]) ++ [syk (tn (i + 1)) 27]) (n + 1)) ((n + 1) + 1) src (n + 1) _ _ _ hP9 (get_other (get_other (get_other (get_other (get_other (get_other hk350 (by omega) _) (by omega) _) (by omega) _) (by omega) _) (by omega) _) (by omega) _) (get_other (get_other (get_other (get_other (get_other (get_other hk32 (by omega) _) (by omega) _) (by omega) _) (by omega) _) (by omega) _) (by omega) _) (get_other (get_other (get_other (get_other (get_other (get_other hk105 (by omega) _) (by omega) _) (by omega) _) (by omega) _) (by omega) _) (by omega) _) (get_other (get_set (get_other (get_other (get_set (get_other hk106 (by omega) _) _) (by omega) _) (by omega) _) _) (by omega) _) h9_hn h9_hnb h9_hu
  refine Calls.mono T9 ?_
  clear hP9 T9 h9_hn h9_hnb h9_hu
  rintro e uw26 ⟨rfl, hQ⟩
  have hN : Own w0 uw26 [row (pb) 182 ((((((PC.setIfInBounds 287 (.int .i64 ((i : Int) + 1))).setIfInBounds 106 (.slice (some ⟨nd4, 0, none⟩) (n + 1) ((n + 1) + nd5))).setIfInBounds 199 (.slice (some ⟨nd6, 0, none⟩) 1 (1 + nd7))).setIfInBounds 287 (.int .i64 (((i + 1) : Int) + 1))).setIfInBounds 106 (.slice (some ⟨nd16, 0, none⟩) ((n + 1) + 1) (((n + 1) + 1) + nd17))).setIfInBounds 199 (.slice (some ⟨nd18, 0, none⟩) (1 + 1) ((1 + 1) + nd19))), row (nd16) 201 (full symZ (symL (bump (bump ((st ++ [syk (tn i) 27]) ++ [syk (tn (i + 1)) 27]) (n + 1)) (n + 1))) nd17), row (ib) 29 (full exZ (putE (putE IL mm [.iface 56 (.pointer (some ⟨B10_2, 0, none⟩)), .int .i32 0]) (mm + 1) [.iface 218 (.pointer (some ⟨B22_5, 0, none⟩)), .int .i32 0]) ci), row (B22_6) 29 #[.iface 218 (.pointer (some ⟨B22_5, 0, none⟩)), .int .i32 0], row (B22_5) 220 #[.iface 56 (.pointer (some ⟨B22_4, 0, none⟩)), .int .i32 0], row (B22_4) 60 #[.int .u32 src, .int .u32 ((n : Int) + 1), .bool false, .bool false, .bool false], row (B22_3) 60 #[.int .u32 src, .int .u32 ((n : Int) + 1), .bool false, .bool false, .bool false], row (B22_2) 207 #[.slice (some ⟨jb, 0, none⟩) (tt + 1) (tt + 1 + cj), .int .i32 0, .int .i32 0, .bool false, .bool false], row (B22_1) 27 #[.int .i32 0], row (B22) 58 #[.int .u32 src, .int .u32 ((n : Int) + 1)], row (ms) 194 ((MC.setIfInBounds 5 (.slice (some ⟨nd8, 0, none⟩) 1 (1 + nd9))).setIfInBounds 5 (.slice (some ⟨nd20, 0, none⟩) (1 + 1) (1 + 1 + nd21))), row (nd18) 295 (full trfZ [.nilIface, .int .i32 0, .int .u32 src, .int .u32 (n : Int), .nilIface, .int .i32 0, .int .u32 src, .int .u32 ((n + 1) : Int)] nd19), row (nd20) 58 (full refZ [.int .u32 src, .int .u32 (n : Int), .int .u32 src, .int .u32 ((n + 1) : Int)] nd21), row (B13_1) 29 #[.iface 56 (.pointer (some ⟨B22_3, 0, none⟩)), .int .i32 0], row (B13) 29 #[.iface 205 (.pointer (some ⟨B22_2, 0, none⟩)), .int .i32 0], row (B10_3) 29 #[.iface 56 (.pointer (some ⟨B10_2, 0, none⟩)), .int .i32 0], row (B10_2) 60 #[.int .u32 src, .int .u32 (n : Int), .bool false, .bool false, .bool false], row (B10_1) 29 #[.iface 202 (.pointer (some ⟨ob, 0, none⟩)), .int .i32 0], row (B10) 58 #[.int .u32 src, .int .u32 (n : Int)], row (B1_1) 29 #[.iface 56 (.pointer (some ⟨vi, 0, none⟩)), .int .i32 li], row (B1) 29 #[.iface 56 (.pointer (some ⟨B10_2, 0, none⟩)), .int .i32 0], row (xp) 22 #[.pointer (some ⟨pb, 0, none⟩)], row (xd) 214 #[.int .u8 0], row (xa) 210 #[.func (Fn.func 25) #[] #[.pointer (some ⟨eb, 0, none⟩)]], row (xv) 247 #[.func (Fn.func 45) #[] #[.pointer (some ⟨xm, 0, none⟩), .pointer (some ⟨xs, 0, none⟩), .pointer (some ⟨xr, 0, none⟩), .pointer (some ⟨xp, 0, none⟩), .pointer (some ⟨xo, 0, none⟩), .pointer (some ⟨xa, 0, none⟩)]], row (xm) 246 #[.map (some mb)], row (xr) 251 #[.func (Fn.func 42) #[] #[.pointer (some ⟨xc, 0, none⟩), .pointer (some ⟨xa, 0, none⟩), .pointer (some ⟨xp, 0, none⟩)]], ((mb, .map (imA [(202, ob), (205, ab)]) 2) : Rw), row (eb) 29 #[.nilIface, .int .i32 wa], row (jb) 29 (full exZ JL cj), row (ob) 204 #[.slice (some ⟨pr, 0, none⟩) 1 (1 + cp), .int .i32 0, .int .i32 0, .bool false, .bool false], row (pr) 52 (full prZ [.pointer none, .nilIface, .int .i32 0, .iface 56 (.pointer (some ⟨vb, 0, none⟩)), .int .i32 0, .nilIface, .int .i32 0, .slice none 0 0, .int .i32 0, .int .i32 0, .int .u8 5, .int .u8 0] cp), ((mp, .map es k) : Rw)] X := hQ.back HL.out HX.out [2, 3, 4, 5, 6, 7, 8, 9, 10, 11, 12, 13, 14, 15, 16, 17, 18, 19, 20, 21, 22, 23, 24, 25, 26, 27, 28, 29, 30, 31, 32] (by decide) (by decide)
  clear hQ HL HX hO
  have hO := hN
  clear hN
  obtain ⟨c9_3_0, c9_3_1, lt9_3, y9_3, -⟩ := hO.k2 3 rfl
  obtain ⟨c9_4_0, c9_4_1, lt9_4, y9_4, -⟩ := hO.k2 4 rfl
  obtain ⟨c9_5_0, c9_5_1, c9_5_2, c9_5_3, c9_5_4, lt9_5, y9_5, -⟩ := hO.k5 5 rfl
  obtain ⟨c9_6_0, c9_6_1, c9_6_2, c9_6_3, c9_6_4, lt9_6, y9_6, -⟩ := hO.k5 6 rfl
  obtain ⟨c9_7_0, c9_7_1, c9_7_2, c9_7_3, c9_7_4, lt9_7, y9_7, -⟩ := hO.k5 7 rfl
  obtain ⟨c9_8_0, lt9_8, y9_8, -⟩ := hO.k1 8 rfl
  obtain ⟨c9_9_0, c9_9_1, lt9_9, y9_9, -⟩ := hO.k2 9 rfl
  obtain ⟨c9_13_0, c9_13_1, lt9_13, y9_13, -⟩ := hO.k2 13 rfl
  obtain ⟨c9_14_0, c9_14_1, lt9_14, y9_14, -⟩ := hO.k2 14 rfl
  obtain ⟨c9_15_0, c9_15_1, lt9_15, y9_15, -⟩ := hO.k2 15 rfl
  obtain ⟨c9_16_0, c9_16_1, c9_16_2, c9_16_3, c9_16_4, lt9_16, y9_16, -⟩ := hO.k5 16 rfl
  obtain ⟨c9_17_0, c9_17_1, lt9_17, y9_17, -⟩ := hO.k2 17 rfl
  obtain ⟨c9_18_0, c9_18_1, lt9_18, y9_18, -⟩ := hO.k2 18 rfl
  obtain ⟨c9_19_0, c9_19_1, lt9_19, y9_19, -⟩ := hO.k2 19 rfl
  obtain ⟨c9_20_0, c9_20_1, lt9_20, y9_20, -⟩ := hO.k2 20 rfl
  obtain ⟨c9_21_0, lt9_21, y9_21, -⟩ := hO.k1 21 rfl
  obtain ⟨c9_22_0, lt9_22, y9_22, -⟩ := hO.k1 22 rfl
  obtain ⟨c9_23_0, lt9_23, y9_23, -⟩ := hO.k1 23 rfl
  obtain ⟨c9_24_0, lt9_24, y9_24, -⟩ := hO.k1 24 rfl
  obtain ⟨c9_25_0, lt9_25, y9_25, -⟩ := hO.k1 25 rfl
  obtain ⟨c9_26_0, lt9_26, y9_26, -⟩ := hO.k1 26 rfl
  obtain ⟨c9_28_0, c9_28_1, lt9_28, y9_28, -⟩ := hO.k2 28 rfl
  obtain ⟨c9_30_0, c9_30_1, c9_30_2, c9_30_3, c9_30_4, lt9_30, y9_30, -⟩ := hO.k5 30 rfl
  have HO := Lib.hid hO
  clear hO
  go_wp2_with (first | (with_reducible refine Own.stay (fn := Tryz.f43) ?_) | (at_builtin; refine Own.appStop ?_) | fail)
  try with_reducible refine Own.Stay.mk ?_
  have hO := HO.out
  clear HO c9_3_0 c9_3_1 lt9_3 y9_3 c9_4_0 c9_4_1 lt9_4 y9_4 c9_5_0 c9_5_1 c9_5_2 c9_5_3 c9_5_4 lt9_5 y9_5 c9_6_0 c9_6_1 c9_6_2 c9_6_3 c9_6_4 lt9_6 y9_6 c9_7_0 c9_7_1 c9_7_2 c9_7_3 c9_7_4 lt9_7 y9_7 c9_8_0 lt9_8 y9_8 c9_9_0 c9_9_1 lt9_9 y9_9 c9_13_0 c9_13_1 lt9_13 y9_13 c9_14_0 c9_14_1 lt9_14 y9_14 c9_15_0 c9_15_1 lt9_15 y9_15 c9_16_0 c9_16_1 c9_16_2 c9_16_3 c9_16_4 lt9_16 y9_16 c9_17_0 c9_17_1 lt9_17 y9_17 c9_18_0 c9_18_1 lt9_18 y9_18 c9_19_0 c9_19_1 lt9_19 y9_19 c9_20_0 c9_20_1 lt9_20 y9_20 c9_21_0 lt9_21 y9_21 c9_22_0 lt9_22 y9_22 c9_23_0 lt9_23 y9_23 c9_24_0 lt9_24 y9_24 c9_25_0 lt9_25 y9_25 c9_26_0 lt9_26 y9_26 c9_28_0 c9_28_1 lt9_28 y9_28 c9_30_0 c9_30_1 c9_30_2 c9_30_3 c9_30_4 lt9_30 y9_30
  generalize hW : World.alloc _ _ = W28
  have hN : Own w0 W28 [row (uw26.heap.size) 207 #[.slice (some ⟨ib, 0, none⟩) (mm + 1 + 1) (mm + 1 + (tt + 1) + ci), .int .i32 0, .int .i32 0, .bool false, .bool false], row (pb) 182 ((((((PC.setIfInBounds 287 (.int .i64 ((i : Int) + 1))).setIfInBounds 106 (.slice (some ⟨nd4, 0, none⟩) (n + 1) ((n + 1) + nd5))).setIfInBounds 199 (.slice (some ⟨nd6, 0, none⟩) 1 (1 + nd7))).setIfInBounds 287 (.int .i64 (((i + 1) : Int) + 1))).setIfInBounds 106 (.slice (some ⟨nd16, 0, none⟩) ((n + 1) + 1) (((n + 1) + 1) + nd17))).setIfInBounds 199 (.slice (some ⟨nd18, 0, none⟩) (1 + 1) ((1 + 1) + nd19))), row (nd16) 201 (full symZ (symL (bump (bump ((st ++ [syk (tn i) 27]) ++ [syk (tn (i + 1)) 27]) (n + 1)) (n + 1))) nd17), row (ib) 29 (full exZ (putE (putE IL mm [.iface 56 (.pointer (some ⟨B10_2, 0, none⟩)), .int .i32 0]) (mm + 1) [.iface 218 (.pointer (some ⟨B22_5, 0, none⟩)), .int .i32 0]) ci), row (B22_6) 29 #[.iface 218 (.pointer (some ⟨B22_5, 0, none⟩)), .int .i32 0], row (B22_5) 220 #[.iface 56 (.pointer (some ⟨B22_4, 0, none⟩)), .int .i32 0], row (B22_4) 60 #[.int .u32 src, .int .u32 ((n : Int) + 1), .bool false, .bool false, .bool false], row (B22_3) 60 #[.int .u32 src, .int .u32 ((n : Int) + 1), .bool false, .bool false, .bool false], row (B22_2) 207 #[.slice (some ⟨jb, 0, none⟩) (tt + 1) (tt + 1 + cj), .int .i32 0, .int .i32 0, .bool false, .bool false], row (B22_1) 27 #[.int .i32 0], row (B22) 58 #[.int .u32 src, .int .u32 ((n : Int) + 1)], row (ms) 194 ((MC.setIfInBounds 5 (.slice (some ⟨nd8, 0, none⟩) 1 (1 + nd9))).setIfInBounds 5 (.slice (some ⟨nd20, 0, none⟩) (1 + 1) (1 + 1 + nd21))), row (nd18) 295 (full trfZ [.nilIface, .int .i32 0, .int .u32 src, .int .u32 (n : Int), .nilIface, .int .i32 0, .int .u32 src, .int .u32 ((n + 1) : Int)] nd19), row (nd20) 58 (full refZ [.int .u32 src, .int .u32 (n : Int), .int .u32 src, .int .u32 ((n + 1) : Int)] nd21), row (B13_1) 29 #[.iface 56 (.pointer (some ⟨B22_3, 0, none⟩)), .int .i32 0], row (B13) 29 #[.iface 205 (.pointer (some ⟨B22_2, 0, none⟩)), .int .i32 0], row (B10_3) 29 #[.iface 56 (.pointer (some ⟨B10_2, 0, none⟩)), .int .i32 0], row (B10_2) 60 #[.int .u32 src, .int .u32 (n : Int), .bool false, .bool false, .bool false], row (B10_1) 29 #[.iface 202 (.pointer (some ⟨ob, 0, none⟩)), .int .i32 0], row (B10) 58 #[.int .u32 src, .int .u32 (n : Int)], row (B1_1) 29 #[.iface 56 (.pointer (some ⟨vi, 0, none⟩)), .int .i32 li], row (B1) 29 #[.iface 56 (.pointer (some ⟨B10_2, 0, none⟩)), .int .i32 0], row (xp) 22 #[.pointer (some ⟨pb, 0, none⟩)], row (xd) 214 #[.int .u8 0], row (xa) 210 #[.func (Fn.func 25) #[] #[.pointer (some ⟨eb, 0, none⟩)]], row (xv) 247 #[.func (Fn.func 45) #[] #[.pointer (some ⟨xm, 0, none⟩), .pointer (some ⟨xs, 0, none⟩), .pointer (some ⟨xr, 0, none⟩), .pointer (some ⟨xp, 0, none⟩), .pointer (some ⟨xo, 0, none⟩), .pointer (some ⟨xa, 0, none⟩)]], row (xm) 246 #[.map (some mb)], row (xr) 251 #[.func (Fn.func 42) #[] #[.pointer (some ⟨xc, 0, none⟩), .pointer (some ⟨xa, 0, none⟩), .pointer (some ⟨xp, 0, none⟩)]], ((mb, .map (imA [(202, ob), (205, ab)]) 2) : Rw), row (eb) 29 #[.nilIface, .int .i32 wa], row (jb) 29 (full exZ JL cj), row (ob) 204 #[.slice (some ⟨pr, 0, none⟩) 1 (1 + cp), .int .i32 0, .int .i32 0, .bool false, .bool false], row (pr) 52 (full prZ [.pointer none, .nilIface, .int .i32 0, .iface 56 (.pointer (some ⟨vb, 0, none⟩)), .int .i32 0, .nilIface, .int .i32 0, .slice none 0 0, .int .i32 0, .int .i32 0, .int .u8 5, .int .u8 0] cp), ((mp, .map es k) : Rw)] X := by
    rw [← hW]
    exact (hO).alloc' _ (uw26.heap.size) (by simp)
  clear hW hO
  generalize uw26.heap.size = B27 at hN ⊢
  have hO := hN
  clear hN
  have hN : Own w0 W28 [row (pb) 182 ((((((PC.setIfInBounds 287 (.int .i64 ((i : Int) + 1))).setIfInBounds 106 (.slice (some ⟨nd4, 0, none⟩) (n + 1) ((n + 1) + nd5))).setIfInBounds 199 (.slice (some ⟨nd6, 0, none⟩) 1 (1 + nd7))).setIfInBounds 287 (.int .i64 (((i + 1) : Int) + 1))).setIfInBounds 106 (.slice (some ⟨nd16, 0, none⟩) ((n + 1) + 1) (((n + 1) + 1) + nd17))).setIfInBounds 199 (.slice (some ⟨nd18, 0, none⟩) (1 + 1) ((1 + 1) + nd19))), row (nd16) 201 (full symZ (symL (bump (bump ((st ++ [syk (tn i) 27]) ++ [syk (tn (i + 1)) 27]) (n + 1)) (n + 1))) nd17), row (ib) 29 (full exZ (putE (putE IL mm [.iface 56 (.pointer (some ⟨B10_2, 0, none⟩)), .int .i32 0]) (mm + 1) [.iface 218 (.pointer (some ⟨B22_5, 0, none⟩)), .int .i32 0]) ci), row (B22_2) 207 #[.slice (some ⟨jb, 0, none⟩) (tt + 1) (tt + 1 + cj), .int .i32 0, .int .i32 0, .bool false, .bool false], row (ms) 194 ((MC.setIfInBounds 5 (.slice (some ⟨nd8, 0, none⟩) 1 (1 + nd9))).setIfInBounds 5 (.slice (some ⟨nd20, 0, none⟩) (1 + 1) (1 + 1 + nd21))), row (nd18) 295 (full trfZ [.nilIface, .int .i32 0, .int .u32 src, .int .u32 (n : Int), .nilIface, .int .i32 0, .int .u32 src, .int .u32 ((n + 1) : Int)] nd19), row (nd20) 58 (full refZ [.int .u32 src, .int .u32 (n : Int), .int .u32 src, .int .u32 ((n + 1) : Int)] nd21), row (B13_1) 29 #[.iface 56 (.pointer (some ⟨B22_3, 0, none⟩)), .int .i32 0], row (B13) 29 #[.iface 205 (.pointer (some ⟨B22_2, 0, none⟩)), .int .i32 0], row (B10_1) 29 #[.iface 202 (.pointer (some ⟨ob, 0, none⟩)), .int .i32 0], row (B10) 58 #[.int .u32 src, .int .u32 (n : Int)], row (B1_1) 29 #[.iface 56 (.pointer (some ⟨vi, 0, none⟩)), .int .i32 li], row (B1) 29 #[.iface 56 (.pointer (some ⟨B10_2, 0, none⟩)), .int .i32 0], row (xp) 22 #[.pointer (some ⟨pb, 0, none⟩)], row (xd) 214 #[.int .u8 0], row (xa) 210 #[.func (Fn.func 25) #[] #[.pointer (some ⟨eb, 0, none⟩)]], row (xv) 247 #[.func (Fn.func 45) #[] #[.pointer (some ⟨xm, 0, none⟩), .pointer (some ⟨xs, 0, none⟩), .pointer (some ⟨xr, 0, none⟩), .pointer (some ⟨xp, 0, none⟩), .pointer (some ⟨xo, 0, none⟩), .pointer (some ⟨xa, 0, none⟩)]], row (xm) 246 #[.map (some mb)], row (xr) 251 #[.func (Fn.func 42) #[] #[.pointer (some ⟨xc, 0, none⟩), .pointer (some ⟨xa, 0, none⟩), .pointer (some ⟨xp, 0, none⟩)]], ((mb, .map (imA [(202, ob), (205, ab)]) 2) : Rw), row (eb) 29 #[.nilIface, .int .i32 wa], row (jb) 29 (full exZ JL cj), row (ob) 204 #[.slice (some ⟨pr, 0, none⟩) 1 (1 + cp), .int .i32 0, .int .i32 0, .bool false, .bool false], row (pr) 52 (full prZ [.pointer none, .nilIface, .int .i32 0, .iface 56 (.pointer (some ⟨vb, 0, none⟩)), .int .i32 0, .nilIface, .int .i32 0, .slice none 0 0, .int .i32 0, .int .i32 0, .int .u8 5, .int .u8 0] cp), ((mp, .map es k) : Rw)] X := hO.sub [1, 2, 3, 8, 11, 12, 13, 14, 15, 18, 19, 20, 21, 22, 23, 24, 25, 26, 27, 28, 29, 30, 31, 32, 33] (by decide)
  clear hO
  have hO := hN
  clear hN
  have hL := hO.apart
  have hX := hO.apartX
  have HL := Lib.hid hL
  have HX := Lib.hid hX
  clear hL hX
  have hP9 := hO.pick [20] (by decide)
  have T9 := asg0 eb wa 205 B27 0 56 vi li _ _ _ hP9 
  refine Calls.mono T9 ?_
  clear hP9 T9
  rintro e uw29 ⟨nd30, rfl, hQ⟩
  have hN : Own w0 uw29 [row (eb) 29 #[.iface 241 (.pointer (some ⟨nd30, 0, none⟩)), .int .i32 0], row (pb) 182 ((((((PC.setIfInBounds 287 (.int .i64 ((i : Int) + 1))).setIfInBounds 106 (.slice (some ⟨nd4, 0, none⟩) (n + 1) ((n + 1) + nd5))).setIfInBounds 199 (.slice (some ⟨nd6, 0, none⟩) 1 (1 + nd7))).setIfInBounds 287 (.int .i64 (((i + 1) : Int) + 1))).setIfInBounds 106 (.slice (some ⟨nd16, 0, none⟩) ((n + 1) + 1) (((n + 1) + 1) + nd17))).setIfInBounds 199 (.slice (some ⟨nd18, 0, none⟩) (1 + 1) ((1 + 1) + nd19))), row (nd16) 201 (full symZ (symL (bump (bump ((st ++ [syk (tn i) 27]) ++ [syk (tn (i + 1)) 27]) (n + 1)) (n + 1))) nd17), row (ib) 29 (full exZ (putE (putE IL mm [.iface 56 (.pointer (some ⟨B10_2, 0, none⟩)), .int .i32 0]) (mm + 1) [.iface 218 (.pointer (some ⟨B22_5, 0, none⟩)), .int .i32 0]) ci), row (B22_2) 207 #[.slice (some ⟨jb, 0, none⟩) (tt + 1) (tt + 1 + cj), .int .i32 0, .int .i32 0, .bool false, .bool false], row (ms) 194 ((MC.setIfInBounds 5 (.slice (some ⟨nd8, 0, none⟩) 1 (1 + nd9))).setIfInBounds 5 (.slice (some ⟨nd20, 0, none⟩) (1 + 1) (1 + 1 + nd21))), row (nd18) 295 (full trfZ [.nilIface, .int .i32 0, .int .u32 src, .int .u32 (n : Int), .nilIface, .int .i32 0, .int .u32 src, .int .u32 ((n + 1) : Int)] nd19), row (nd20) 58 (full refZ [.int .u32 src, .int .u32 (n : Int), .int .u32 src, .int .u32 ((n + 1) : Int)] nd21), row (B13_1) 29 #[.iface 56 (.pointer (some ⟨B22_3, 0, none⟩)), .int .i32 0], row (B13) 29 #[.iface 205 (.pointer (some ⟨B22_2, 0, none⟩)), .int .i32 0], row (B10_1) 29 #[.iface 202 (.pointer (some ⟨ob, 0, none⟩)), .int .i32 0], row (B10) 58 #[.int .u32 src, .int .u32 (n : Int)], row (B1_1) 29 #[.iface 56 (.pointer (some ⟨vi, 0, none⟩)), .int .i32 li], row (B1) 29 #[.iface 56 (.pointer (some ⟨B10_2, 0, none⟩)), .int .i32 0], row (xp) 22 #[.pointer (some ⟨pb, 0, none⟩)], row (xd) 214 #[.int .u8 0], row (xa) 210 #[.func (Fn.func 25) #[] #[.pointer (some ⟨eb, 0, none⟩)]], row (xv) 247 #[.func (Fn.func 45) #[] #[.pointer (some ⟨xm, 0, none⟩), .pointer (some ⟨xs, 0, none⟩), .pointer (some ⟨xr, 0, none⟩), .pointer (some ⟨xp, 0, none⟩), .pointer (some ⟨xo, 0, none⟩), .pointer (some ⟨xa, 0, none⟩)]], row (xm) 246 #[.map (some mb)], row (xr) 251 #[.func (Fn.func 42) #[] #[.pointer (some ⟨xc, 0, none⟩), .pointer (some ⟨xa, 0, none⟩), .pointer (some ⟨xp, 0, none⟩)]], ((mb, .map (imA [(202, ob), (205, ab)]) 2) : Rw), row (jb) 29 (full exZ JL cj), row (ob) 204 #[.slice (some ⟨pr, 0, none⟩) 1 (1 + cp), .int .i32 0, .int .i32 0, .bool false, .bool false], row (pr) 52 (full prZ [.pointer none, .nilIface, .int .i32 0, .iface 56 (.pointer (some ⟨vb, 0, none⟩)), .int .i32 0, .nilIface, .int .i32 0, .slice none 0 0, .int .i32 0, .int .i32 0, .int .u8 5, .int .u8 0] cp), ((mp, .map es k) : Rw)] X := hQ.back HL.out HX.out [0, 1, 2, 3, 4, 5, 6, 7, 8, 9, 10, 11, 12, 13, 14, 15, 16, 17, 18, 19, 21, 22, 23, 24] (by decide) (by decide)
  clear hQ HL HX hO
  have hO := hN
  clear hN
  obtain ⟨c9_0_0, c9_0_1, lt9_0, y9_0, -⟩ := hO.k2 0 rfl
  obtain ⟨c9_4_0, c9_4_1, c9_4_2, c9_4_3, c9_4_4, lt9_4, y9_4, -⟩ := hO.k5 4 rfl
  obtain ⟨c9_8_0, c9_8_1, lt9_8, y9_8, -⟩ := hO.k2 8 rfl
  obtain ⟨c9_9_0, c9_9_1, lt9_9, y9_9, -⟩ := hO.k2 9 rfl
  obtain ⟨c9_10_0, c9_10_1, lt9_10, y9_10, -⟩ := hO.k2 10 rfl
  obtain ⟨c9_11_0, c9_11_1, lt9_11, y9_11, -⟩ := hO.k2 11 rfl
  obtain ⟨c9_12_0, c9_12_1, lt9_12, y9_12, -⟩ := hO.k2 12 rfl
  obtain ⟨c9_13_0, c9_13_1, lt9_13, y9_13, -⟩ := hO.k2 13 rfl
  obtain ⟨c9_14_0, lt9_14, y9_14, -⟩ := hO.k1 14 rfl
  obtain ⟨c9_15_0, lt9_15, y9_15, -⟩ := hO.k1 15 rfl
  obtain ⟨c9_16_0, lt9_16, y9_16, -⟩ := hO.k1 16 rfl
  obtain ⟨c9_17_0, lt9_17, y9_17, -⟩ := hO.k1 17 rfl
  obtain ⟨c9_18_0, lt9_18, y9_18, -⟩ := hO.k1 18 rfl
  obtain ⟨c9_19_0, lt9_19, y9_19, -⟩ := hO.k1 19 rfl
  obtain ⟨c9_22_0, c9_22_1, c9_22_2, c9_22_3, c9_22_4, lt9_22, y9_22, -⟩ := hO.k5 22 rfl
  have HO := Lib.hid hO
  clear hO
  go_wp2_with (first | (with_reducible refine Own.stay (fn := Tryz.f43) ?_) | (at_builtin; refine Own.appStop ?_) | fail)
  try with_reducible refine Own.Stay.mk ?_
  have hO := HO.out
  clear HO c9_0_0 c9_0_1 lt9_0 y9_0 c9_4_0 c9_4_1 c9_4_2 c9_4_3 c9_4_4 lt9_4 y9_4 c9_8_0 c9_8_1 lt9_8 y9_8 c9_9_0 c9_9_1 lt9_9 y9_9 c9_10_0 c9_10_1 lt9_10 y9_10 c9_11_0 c9_11_1 lt9_11 y9_11 c9_12_0 c9_12_1 lt9_12 y9_12 c9_13_0 c9_13_1 lt9_13 y9_13 c9_14_0 lt9_14 y9_14 c9_15_0 lt9_15 y9_15 c9_16_0 lt9_16 y9_16 c9_17_0 lt9_17 y9_17 c9_18_0 lt9_18 y9_18 c9_19_0 lt9_19 y9_19 c9_22_0 c9_22_1 c9_22_2 c9_22_3 c9_22_4 lt9_22 y9_22
  generalize hW : World.alloc _ _ = W32
  have hN : Own w0 W32 [row (uw29.heap.size) 60 #[.int .u32 src, .int .u32 (n : Int), .bool false, .bool false, .bool false], row (eb) 29 #[.iface 241 (.pointer (some ⟨nd30, 0, none⟩)), .int .i32 0], row (pb) 182 ((((((PC.setIfInBounds 287 (.int .i64 ((i : Int) + 1))).setIfInBounds 106 (.slice (some ⟨nd4, 0, none⟩) (n + 1) ((n + 1) + nd5))).setIfInBounds 199 (.slice (some ⟨nd6, 0, none⟩) 1 (1 + nd7))).setIfInBounds 287 (.int .i64 (((i + 1) : Int) + 1))).setIfInBounds 106 (.slice (some ⟨nd16, 0, none⟩) ((n + 1) + 1) (((n + 1) + 1) + nd17))).setIfInBounds 199 (.slice (some ⟨nd18, 0, none⟩) (1 + 1) ((1 + 1) + nd19))), row (nd16) 201 (full symZ (symL (bump (bump ((st ++ [syk (tn i) 27]) ++ [syk (tn (i + 1)) 27]) (n + 1)) (n + 1))) nd17), row (ib) 29 (full exZ (putE (putE IL mm [.iface 56 (.pointer (some ⟨B10_2, 0, none⟩)), .int .i32 0]) (mm + 1) [.iface 218 (.pointer (some ⟨B22_5, 0, none⟩)), .int .i32 0]) ci), row (B22_2) 207 #[.slice (some ⟨jb, 0, none⟩) (tt + 1) (tt + 1 + cj), .int .i32 0, .int .i32 0, .bool false, .bool false], row (ms) 194 ((MC.setIfInBounds 5 (.slice (some ⟨nd8, 0, none⟩) 1 (1 + nd9))).setIfInBounds 5 (.slice (some ⟨nd20, 0, none⟩) (1 + 1) (1 + 1 + nd21))), row (nd18) 295 (full trfZ [.nilIface, .int .i32 0, .int .u32 src, .int .u32 (n : Int), .nilIface, .int .i32 0, .int .u32 src, .int .u32 ((n + 1) : Int)] nd19), row (nd20) 58 (full refZ [.int .u32 src, .int .u32 (n : Int), .int .u32 src, .int .u32 ((n + 1) : Int)] nd21), row (B13_1) 29 #[.iface 56 (.pointer (some ⟨B22_3, 0, none⟩)), .int .i32 0], row (B13) 29 #[.iface 205 (.pointer (some ⟨B22_2, 0, none⟩)), .int .i32 0], row (B10_1) 29 #[.iface 202 (.pointer (some ⟨ob, 0, none⟩)), .int .i32 0], row (B10) 58 #[.int .u32 src, .int .u32 (n : Int)], row (B1_1) 29 #[.iface 56 (.pointer (some ⟨vi, 0, none⟩)), .int .i32 li], row (B1) 29 #[.iface 56 (.pointer (some ⟨B10_2, 0, none⟩)), .int .i32 0], row (xp) 22 #[.pointer (some ⟨pb, 0, none⟩)], row (xd) 214 #[.int .u8 0], row (xa) 210 #[.func (Fn.func 25) #[] #[.pointer (some ⟨eb, 0, none⟩)]], row (xv) 247 #[.func (Fn.func 45) #[] #[.pointer (some ⟨xm, 0, none⟩), .pointer (some ⟨xs, 0, none⟩), .pointer (some ⟨xr, 0, none⟩), .pointer (some ⟨xp, 0, none⟩), .pointer (some ⟨xo, 0, none⟩), .pointer (some ⟨xa, 0, none⟩)]], row (xm) 246 #[.map (some mb)], row (xr) 251 #[.func (Fn.func 42) #[] #[.pointer (some ⟨xc, 0, none⟩), .pointer (some ⟨xa, 0, none⟩), .pointer (some ⟨xp, 0, none⟩)]], ((mb, .map (imA [(202, ob), (205, ab)]) 2) : Rw), row (jb) 29 (full exZ JL cj), row (ob) 204 #[.slice (some ⟨pr, 0, none⟩) 1 (1 + cp), .int .i32 0, .int .i32 0, .bool false, .bool false], row (pr) 52 (full prZ [.pointer none, .nilIface, .int .i32 0, .iface 56 (.pointer (some ⟨vb, 0, none⟩)), .int .i32 0, .nilIface, .int .i32 0, .slice none 0 0, .int .i32 0, .int .i32 0, .int .u8 5, .int .u8 0] cp), ((mp, .map es k) : Rw)] X := by
    rw [← hW]
    exact (hO).alloc' _ (uw29.heap.size) (by simp)
  clear hW hO
  generalize uw29.heap.size = B31 at hN ⊢
  have hO := hN
  clear hN
  have hN : Own w0 W32 [row (eb) 29 #[.iface 241 (.pointer (some ⟨nd30, 0, none⟩)), .int .i32 0], row (pb) 182 ((((((PC.setIfInBounds 287 (.int .i64 ((i : Int) + 1))).setIfInBounds 106 (.slice (some ⟨nd4, 0, none⟩) (n + 1) ((n + 1) + nd5))).setIfInBounds 199 (.slice (some ⟨nd6, 0, none⟩) 1 (1 + nd7))).setIfInBounds 287 (.int .i64 (((i + 1) : Int) + 1))).setIfInBounds 106 (.slice (some ⟨nd16, 0, none⟩) ((n + 1) + 1) (((n + 1) + 1) + nd17))).setIfInBounds 199 (.slice (some ⟨nd18, 0, none⟩) (1 + 1) ((1 + 1) + nd19))), row (nd16) 201 (full symZ (symL (bump (bump ((st ++ [syk (tn i) 27]) ++ [syk (tn (i + 1)) 27]) (n + 1)) (n + 1))) nd17), row (ib) 29 (full exZ (putE (putE IL mm [.iface 56 (.pointer (some ⟨B10_2, 0, none⟩)), .int .i32 0]) (mm + 1) [.iface 218 (.pointer (some ⟨B22_5, 0, none⟩)), .int .i32 0]) ci), row (B22_2) 207 #[.slice (some ⟨jb, 0, none⟩) (tt + 1) (tt + 1 + cj), .int .i32 0, .int .i32 0, .bool false, .bool false], row (ms) 194 ((MC.setIfInBounds 5 (.slice (some ⟨nd8, 0, none⟩) 1 (1 + nd9))).setIfInBounds 5 (.slice (some ⟨nd20, 0, none⟩) (1 + 1) (1 + 1 + nd21))), row (nd18) 295 (full trfZ [.nilIface, .int .i32 0, .int .u32 src, .int .u32 (n : Int), .nilIface, .int .i32 0, .int .u32 src, .int .u32 ((n + 1) : Int)] nd19), row (nd20) 58 (full refZ [.int .u32 src, .int .u32 (n : Int), .int .u32 src, .int .u32 ((n + 1) : Int)] nd21), row (B13_1) 29 #[.iface 56 (.pointer (some ⟨B22_3, 0, none⟩)), .int .i32 0], row (B13) 29 #[.iface 205 (.pointer (some ⟨B22_2, 0, none⟩)), .int .i32 0], row (B10_1) 29 #[.iface 202 (.pointer (some ⟨ob, 0, none⟩)), .int .i32 0], row (B10) 58 #[.int .u32 src, .int .u32 (n : Int)], row (B1_1) 29 #[.iface 56 (.pointer (some ⟨vi, 0, none⟩)), .int .i32 li], row (B1) 29 #[.iface 56 (.pointer (some ⟨B10_2, 0, none⟩)), .int .i32 0], row (xp) 22 #[.pointer (some ⟨pb, 0, none⟩)], row (xd) 214 #[.int .u8 0], row (xa) 210 #[.func (Fn.func 25) #[] #[.pointer (some ⟨eb, 0, none⟩)]], row (xv) 247 #[.func (Fn.func 45) #[] #[.pointer (some ⟨xm, 0, none⟩), .pointer (some ⟨xs, 0, none⟩), .pointer (some ⟨xr, 0, none⟩), .pointer (some ⟨xp, 0, none⟩), .pointer (some ⟨xo, 0, none⟩), .pointer (some ⟨xa, 0, none⟩)]], row (xm) 246 #[.map (some mb)], row (xr) 251 #[.func (Fn.func 42) #[] #[.pointer (some ⟨xc, 0, none⟩), .pointer (some ⟨xa, 0, none⟩), .pointer (some ⟨xp, 0, none⟩)]], ((mb, .map (imA [(202, ob), (205, ab)]) 2) : Rw), row (jb) 29 (full exZ JL cj), row (ob) 204 #[.slice (some ⟨pr, 0, none⟩) 1 (1 + cp), .int .i32 0, .int .i32 0, .bool false, .bool false], row (pr) 52 (full prZ [.pointer none, .nilIface, .int .i32 0, .iface 56 (.pointer (some ⟨vb, 0, none⟩)), .int .i32 0, .nilIface, .int .i32 0, .slice none 0 0, .int .i32 0, .int .i32 0, .int .u8 5, .int .u8 0] cp), ((mp, .map es k) : Rw)] X := hO.sub [1, 2, 3, 4, 5, 6, 7, 8, 9, 10, 11, 12, 13, 14, 15, 16, 17, 18, 19, 20, 21, 22, 23, 24, 25] (by decide)
  clear hO
  have hO := hN
  clear hN
  have hL := hO.apart
  have hX := hO.apartX
  have HL := Lib.hid hL
  have HX := Lib.hid hX
  clear hL hX
  have hP9 := hO.pick [19, 22, 23, 14, 16, 0, 1, 2, 24, 5, 7] (by decide)
  have h9_hn : (bump (bump ((st ++ [syk (tn i) 27]) ++ [syk (tn (i + 1)) 27]) (n + 1)) (n + 1)).length = ((n + 1) + 1) := (lnb (lnb (ln1 (ln1 hn))))
  have h9_hnb : ((n + 1) + 1) ≤ 2000000 := (by omega)
  have h9_hgl : ([.int .u32 src, .int .u32 (n : Int), .int .u32 src, .int .u32 ((n + 1) : Int)] : List Value).length = (1 + 1) * 2 := rfl
  have h9_hgm : (1 + 1) ≤ 2000000 := (by omega)
  have T9 := visO11 pb ((((((PC.setIfInBounds 287 (.int .i64 ((i : Int) + 1))).setIfInBounds 106 (.slice (some ⟨nd4, 0, none⟩) (n + 1) ((n + 1) + nd5))).setIfInBounds 199 (.slice (some ⟨nd6, 0, none⟩) 1 (1 + nd7))).setIfInBounds 287 (.int .i64 (((i + 1) : Int) + 1))).setIfInBounds 106 (.slice (some ⟨nd16, 0, none⟩) ((n + 1) + 1) (((n + 1) + 1) + nd17))).setIfInBounds 199 (.slice (some ⟨nd18, 0, none⟩) (1 + 1) ((1 + 1) + nd19))) nd16 nd17 (bump (bump ((st ++ [syk (tn i) 27]) ++ [syk (tn (i + 1)) 27]) (n + 1)) (n + 1)) ((n + 1) + 1) src mp es k ms ((MC.setIfInBounds 5 (.slice (some ⟨nd8, 0, none⟩) 1 (1 + nd9))).setIfInBounds 5 (.slice (some ⟨nd20, 0, none⟩) (1 + 1) ((1 + 1) + nd21))) nd20 nd21 ([.int .u32 src, .int .u32 (n : Int), .int .u32 src, .int .u32 ((n + 1) : Int)]) (1 + 1) xc eb nd30 0 B31 0 xm xs xr xp xo xa ob 0 pr cp vb _ _ _ hP9 (get_other (get_other (get_other (get_other (get_other (get_other hk350 (by omega) _) (by omega) _) (by omega) _) (by omega) _) (by omega) _) (by omega) _) (get_other (get_other (get_other (get_other (get_other (get_other hk32 (by omega) _) (by omega) _) (by omega) _) (by omega) _) (by omega) _) (by omega) _) (get_other (get_other (get_other (get_other (get_other (get_other hk105 (by omega) _) (by omega) _) (by omega) _) (by omega) _) (by omega) _) (by omega) _) (get_other (get_other (get_other (get_other (get_other (get_other hk66 (by omega) _) (by omega) _) (by omega) _) (by omega) _) (by omega) _) (by omega) _) (get_other (get_other (get_other (get_other (get_other (get_other hk117 (by omega) _) (by omega) _) (by omega) _) (by omega) _) (by omega) _) (by omega) _) (get_other (get_other (get_other (get_other (get_other (get_other hk187 (by omega) _) (by omega) _) (by omega) _) (by omega) _) (by omega) _) (by omega) _) (get_other (get_set (get_other (get_other (get_set (get_other hk106 (by omega) _) _) (by omega) _) (by omega) _) _) (by omega) _) h9_hn h9_hnb (get_set (get_set hgen _) _) h9_hgl h9_hgm hno hg0 hg1
  refine Calls.mono T9 ?_
  clear hP9 T9 h9_hn h9_hnb h9_hgl h9_hgm
  rintro e uw33 ⟨nd34, nd35, nd36, nd37, nd38, rfl, hQ⟩
  have hN : Own w0 uw33 [row (xr) 251 #[.func (Fn.func 42) #[] #[.pointer (some ⟨xc, 0, none⟩), .pointer (some ⟨xa, 0, none⟩), .pointer (some ⟨xp, 0, none⟩)]], row (ob) 204 #[.slice (some ⟨pr, 0, none⟩) 1 (1 + cp), .int .i32 0, .int .i32 0, .bool false, .bool false], row (pr) 52 (full prZ [.pointer none, .nilIface, .int .i32 0, .iface 56 (.pointer (some ⟨vb, 0, none⟩)), .int .i32 0, .nilIface, .int .i32 0, .slice none 0 0, .int .i32 0, .int .i32 0, .int .u8 5, .int .u8 0] cp), row (xp) 22 #[.pointer (some ⟨pb, 0, none⟩)], row (xa) 210 #[.func (Fn.func 25) #[] #[.pointer (some ⟨eb, 0, none⟩)]], row (eb) 29 #[.iface 241 (.pointer (some ⟨nd34, 0, none⟩)), .int .i32 0], row (pb) 182 (((((((PC.setIfInBounds 287 (.int .i64 ((i : Int) + 1))).setIfInBounds 106 (.slice (some ⟨nd4, 0, none⟩) (n + 1) ((n + 1) + nd5))).setIfInBounds 199 (.slice (some ⟨nd6, 0, none⟩) 1 (1 + nd7))).setIfInBounds 287 (.int .i64 (((i + 1) : Int) + 1))).setIfInBounds 106 (.slice (some ⟨nd16, 0, none⟩) ((n + 1) + 1) (((n + 1) + 1) + nd17))).setIfInBounds 199 (.slice (some ⟨nd18, 0, none⟩) (1 + 1) ((1 + 1) + nd19))).setIfInBounds 106 (.slice (some ⟨nd35, 0, none⟩) (((n + 1) + 1) + 1) (((n + 1) + 1) + 1 + nd36))), row (nd35) 201 (full symZ (symL (bump ((bump (bump ((st ++ [syk (tn i) 27]) ++ [syk (tn (i + 1)) 27]) (n + 1)) (n + 1)) ++ [syk ⟨#[95, 95, 111, 98, 106, 82, 101, 115, 116]⟩ 27]) ((n + 1) + 1))) nd36), ((mp, .map (es.push ⟨.string ⟨#[95, 95, 111, 98, 106, 82, 101, 115, 116]⟩, .agg #[.int .i32 0, .int .u32 src, .int .u32 (((n + 1) + 1) : Int)], k⟩) (k + 1)) : Rw), row (ms) 194 (((MC.setIfInBounds 5 (.slice (some ⟨nd8, 0, none⟩) 1 (1 + nd9))).setIfInBounds 5 (.slice (some ⟨nd20, 0, none⟩) (1 + 1) ((1 + 1) + nd21))).setIfInBounds 5 (.slice (some ⟨nd37, 0, none⟩) ((1 + 1) + 1) ((1 + 1) + 1 + nd38))), row (nd37) 58 (full refZ [.int .u32 src, .int .u32 (n : Int), .int .u32 src, .int .u32 ((n + 1) : Int), .int .u32 src, .int .u32 (((n + 1) + 1) : Int)] nd38), row (ib) 29 (full exZ (putE (putE IL mm [.iface 56 (.pointer (some ⟨B10_2, 0, none⟩)), .int .i32 0]) (mm + 1) [.iface 218 (.pointer (some ⟨B22_5, 0, none⟩)), .int .i32 0]) ci), row (B22_2) 207 #[.slice (some ⟨jb, 0, none⟩) (tt + 1) (tt + 1 + cj), .int .i32 0, .int .i32 0, .bool false, .bool false], row (nd18) 295 (full trfZ [.nilIface, .int .i32 0, .int .u32 src, .int .u32 (n : Int), .nilIface, .int .i32 0, .int .u32 src, .int .u32 ((n + 1) : Int)] nd19), row (B13_1) 29 #[.iface 56 (.pointer (some ⟨B22_3, 0, none⟩)), .int .i32 0], row (B13) 29 #[.iface 205 (.pointer (some ⟨B22_2, 0, none⟩)), .int .i32 0], row (B10_1) 29 #[.iface 202 (.pointer (some ⟨ob, 0, none⟩)), .int .i32 0], row (B10) 58 #[.int .u32 src, .int .u32 (n : Int)], row (B1_1) 29 #[.iface 56 (.pointer (some ⟨vi, 0, none⟩)), .int .i32 li], row (B1) 29 #[.iface 56 (.pointer (some ⟨B10_2, 0, none⟩)), .int .i32 0], row (xd) 214 #[.int .u8 0], row (xv) 247 #[.func (Fn.func 45) #[] #[.pointer (some ⟨xm, 0, none⟩), .pointer (some ⟨xs, 0, none⟩), .pointer (some ⟨xr, 0, none⟩), .pointer (some ⟨xp, 0, none⟩), .pointer (some ⟨xo, 0, none⟩), .pointer (some ⟨xa, 0, none⟩)]], row (xm) 246 #[.map (some mb)], ((mb, .map (imA [(202, ob), (205, ab)]) 2) : Rw), row (jb) 29 (full exZ JL cj)] X := hQ.back HL.out HX.out [3, 4, 6, 8, 9, 10, 11, 12, 13, 15, 17, 18, 20, 21] (by decide) (by decide)
  clear hQ HL HX hO
  have hO := hN
  clear hN
  obtain ⟨c9_0_0, lt9_0, y9_0, -⟩ := hO.k1 0 rfl
  obtain ⟨c9_1_0, c9_1_1, c9_1_2, c9_1_3, c9_1_4, lt9_1, y9_1, -⟩ := hO.k5 1 rfl
  obtain ⟨c9_3_0, lt9_3, y9_3, -⟩ := hO.k1 3 rfl
  obtain ⟨c9_4_0, lt9_4, y9_4, -⟩ := hO.k1 4 rfl
  obtain ⟨c9_5_0, c9_5_1, lt9_5, y9_5, -⟩ := hO.k2 5 rfl
  obtain ⟨c9_12_0, c9_12_1, c9_12_2, c9_12_3, c9_12_4, lt9_12, y9_12, -⟩ := hO.k5 12 rfl
  obtain ⟨c9_14_0, c9_14_1, lt9_14, y9_14, -⟩ := hO.k2 14 rfl
  obtain ⟨c9_15_0, c9_15_1, lt9_15, y9_15, -⟩ := hO.k2 15 rfl
  obtain ⟨c9_16_0, c9_16_1, lt9_16, y9_16, -⟩ := hO.k2 16 rfl
  obtain ⟨c9_17_0, c9_17_1, lt9_17, y9_17, -⟩ := hO.k2 17 rfl
  obtain ⟨c9_18_0, c9_18_1, lt9_18, y9_18, -⟩ := hO.k2 18 rfl
  obtain ⟨c9_19_0, c9_19_1, lt9_19, y9_19, -⟩ := hO.k2 19 rfl
  obtain ⟨c9_20_0, lt9_20, y9_20, -⟩ := hO.k1 20 rfl
  obtain ⟨c9_21_0, lt9_21, y9_21, -⟩ := hO.k1 21 rfl
  obtain ⟨c9_22_0, lt9_22, y9_22, -⟩ := hO.k1 22 rfl
  have HO := Lib.hid hO
  clear hO
  go_wp2_with (first | (with_reducible refine Own.stay (fn := Tryz.f43) ?_) | (at_builtin; refine Own.appStop ?_) | fail)
  try with_reducible refine Own.Stay.mk ?_
  have hO := HO.out
  clear HO c9_0_0 lt9_0 y9_0 c9_1_0 c9_1_1 c9_1_2 c9_1_3 c9_1_4 lt9_1 y9_1 c9_3_0 lt9_3 y9_3 c9_4_0 lt9_4 y9_4 c9_5_0 c9_5_1 lt9_5 y9_5 c9_12_0 c9_12_1 c9_12_2 c9_12_3 c9_12_4 lt9_12 y9_12 c9_14_0 c9_14_1 lt9_14 y9_14 c9_15_0 c9_15_1 lt9_15 y9_15 c9_16_0 c9_16_1 lt9_16 y9_16 c9_17_0 c9_17_1 lt9_17 y9_17 c9_18_0 c9_18_1 lt9_18 y9_18 c9_19_0 c9_19_1 lt9_19 y9_19 c9_20_0 lt9_20 y9_20 c9_21_0 lt9_21 y9_21 c9_22_0 lt9_22 y9_22
  have hL := hO.apart
  have hX := hO.apartX
  have HL := Lib.hid hL
  have HX := Lib.hid hX
  clear hL hX
  have hP9 := hO.pick [6, 7] (by decide)
  have h9_hn : (bump ((bump (bump ((st ++ [syk (tn i) 27]) ++ [syk (tn (i + 1)) 27]) (n + 1)) (n + 1)) ++ [syk ⟨#[95, 95, 111, 98, 106, 82, 101, 115, 116]⟩ 27]) ((n + 1) + 1)).length = (((n + 1) + 1) + 1) := (lnb (ln1 (lnb (lnb (ln1 (ln1 hn))))))
  have h9_hnb : (((n + 1) + 1) + 1) ≤ 4000000 := (by omega)
  have h9_hu : ∃ s, (bump ((bump (bump ((st ++ [syk (tn i) 27]) ++ [syk (tn (i + 1)) 27]) (n + 1)) (n + 1)) ++ [syk ⟨#[95, 95, 111, 98, 106, 82, 101, 115, 116]⟩ 27]) ((n + 1) + 1))[n]? = some s ∧ s.uc < 4294967295 := ((((HUB.out.snoc.snoc.bump _).bump _).snoc.bump _).use (by rw [lnb (ln1 (lnb (lnb (ln1 (ln1 hn)))))]; omega) (by omega))
  have T9 := useG pb (((((((PC.setIfInBounds 287 (.int .i64 ((i : Int) + 1))).setIfInBounds 106 (.slice (some ⟨nd4, 0, none⟩) (n + 1) ((n + 1) + nd5))).setIfInBounds 199 (.slice (some ⟨nd6, 0, none⟩) 1 (1 + nd7))).setIfInBounds 287 (.int .i64 (((i + 1) : Int) + 1))).setIfInBounds 106 (.slice (some ⟨nd16, 0, none⟩) ((n + 1) + 1) (((n + 1) + 1) + nd17))).setIfInBounds 199 (.slice (some ⟨nd18, 0, none⟩) (1 + 1) ((1 + 1) + nd19))).setIfInBounds 106 (.slice (some ⟨nd35, 0, none⟩) (((n + 1) + 1) + 1) ((((n + 1) + 1) + 1) + nd36))) nd35 nd36 (bump ((bump (bump ((st ++ [syk (tn i) 27]) ++ [syk (tn (i + 1)) 27]) (n + 1)) (n + 1)) ++ [syk ⟨#[95, 95, 111, 98, 106, 82, 101, 115, 116]⟩ 27]) ((n + 1) + 1)) (((n + 1) + 1) + 1) src n _ _ _ hP9 (get_other (get_other (get_other (get_other (get_other (get_other (get_other hk350 (by omega) _) (by omega) _) (by omega) _) (by omega) _) (by omega) _) (by omega) _) (by omega) _) (get_other (get_other (get_other (get_other (get_other (get_other (get_other hk32 (by omega) _) (by omega) _) (by omega) _) (by omega) _) (by omega) _) (by omega) _) (by omega) _) (get_other (get_other (get_other (get_other (get_other (get_other (get_other hk105 (by omega) _) (by omega) _) (by omega) _) (by omega) _) (by omega) _) (by omega) _) (by omega) _) (get_set (get_other (get_set (get_other (get_other (get_set (get_other hk106 (by omega) _) _) (by omega) _) (by omega) _) _) (by omega) _) _) h9_hn h9_hnb h9_hu
  refine Calls.mono T9 ?_
  clear hP9 T9 h9_hn h9_hnb h9_hu
  rintro e uw39 ⟨rfl, hQ⟩
  have hN : Own w0 uw39 [row (pb) 182 (((((((PC.setIfInBounds 287 (.int .i64 ((i : Int) + 1))).setIfInBounds 106 (.slice (some ⟨nd4, 0, none⟩) (n + 1) ((n + 1) + nd5))).setIfInBounds 199 (.slice (some ⟨nd6, 0, none⟩) 1 (1 + nd7))).setIfInBounds 287 (.int .i64 (((i + 1) : Int) + 1))).setIfInBounds 106 (.slice (some ⟨nd16, 0, none⟩) ((n + 1) + 1) (((n + 1) + 1) + nd17))).setIfInBounds 199 (.slice (some ⟨nd18, 0, none⟩) (1 + 1) ((1 + 1) + nd19))).setIfInBounds 106 (.slice (some ⟨nd35, 0, none⟩) (((n + 1) + 1) + 1) ((((n + 1) + 1) + 1) + nd36))), row (nd35) 201 (full symZ (symL (bump (bump ((bump (bump ((st ++ [syk (tn i) 27]) ++ [syk (tn (i + 1)) 27]) (n + 1)) (n + 1)) ++ [syk ⟨#[95, 95, 111, 98, 106, 82, 101, 115, 116]⟩ 27]) ((n + 1) + 1)) n)) nd36), row (xr) 251 #[.func (Fn.func 42) #[] #[.pointer (some ⟨xc, 0, none⟩), .pointer (some ⟨xa, 0, none⟩), .pointer (some ⟨xp, 0, none⟩)]], row (ob) 204 #[.slice (some ⟨pr, 0, none⟩) 1 (1 + cp), .int .i32 0, .int .i32 0, .bool false, .bool false], row (pr) 52 (full prZ [.pointer none, .nilIface, .int .i32 0, .iface 56 (.pointer (some ⟨vb, 0, none⟩)), .int .i32 0, .nilIface, .int .i32 0, .slice none 0 0, .int .i32 0, .int .i32 0, .int .u8 5, .int .u8 0] cp), row (xp) 22 #[.pointer (some ⟨pb, 0, none⟩)], row (xa) 210 #[.func (Fn.func 25) #[] #[.pointer (some ⟨eb, 0, none⟩)]], row (eb) 29 #[.iface 241 (.pointer (some ⟨nd34, 0, none⟩)), .int .i32 0], ((mp, .map (es.push ⟨.string ⟨#[95, 95, 111, 98, 106, 82, 101, 115, 116]⟩, .agg #[.int .i32 0, .int .u32 src, .int .u32 (((n + 1) + 1) : Int)], k⟩) (k + 1)) : Rw), row (ms) 194 (((MC.setIfInBounds 5 (.slice (some ⟨nd8, 0, none⟩) 1 (1 + nd9))).setIfInBounds 5 (.slice (some ⟨nd20, 0, none⟩) (1 + 1) ((1 + 1) + nd21))).setIfInBounds 5 (.slice (some ⟨nd37, 0, none⟩) ((1 + 1) + 1) ((1 + 1) + 1 + nd38))), row (nd37) 58 (full refZ [.int .u32 src, .int .u32 (n : Int), .int .u32 src, .int .u32 ((n + 1) : Int), .int .u32 src, .int .u32 (((n + 1) + 1) : Int)] nd38), row (ib) 29 (full exZ (putE (putE IL mm [.iface 56 (.pointer (some ⟨B10_2, 0, none⟩)), .int .i32 0]) (mm + 1) [.iface 218 (.pointer (some ⟨B22_5, 0, none⟩)), .int .i32 0]) ci), row (B22_2) 207 #[.slice (some ⟨jb, 0, none⟩) (tt + 1) (tt + 1 + cj), .int .i32 0, .int .i32 0, .bool false, .bool false], row (nd18) 295 (full trfZ [.nilIface, .int .i32 0, .int .u32 src, .int .u32 (n : Int), .nilIface, .int .i32 0, .int .u32 src, .int .u32 ((n + 1) : Int)] nd19), row (B13_1) 29 #[.iface 56 (.pointer (some ⟨B22_3, 0, none⟩)), .int .i32 0], row (B13) 29 #[.iface 205 (.pointer (some ⟨B22_2, 0, none⟩)), .int .i32 0], row (B10_1) 29 #[.iface 202 (.pointer (some ⟨ob, 0, none⟩)), .int .i32 0], row (B10) 58 #[.int .u32 src, .int .u32 (n : Int)], row (B1_1) 29 #[.iface 56 (.pointer (some ⟨vi, 0, none⟩)), .int .i32 li], row (B1) 29 #[.iface 56 (.pointer (some ⟨B10_2, 0, none⟩)), .int .i32 0], row (xd) 214 #[.int .u8 0], row (xv) 247 #[.func (Fn.func 45) #[] #[.pointer (some ⟨xm, 0, none⟩), .pointer (some ⟨xs, 0, none⟩), .pointer (some ⟨xr, 0, none⟩), .pointer (some ⟨xp, 0, none⟩), .pointer (some ⟨xo, 0, none⟩), .pointer (some ⟨xa, 0, none⟩)]], row (xm) 246 #[.map (some mb)], ((mb, .map (imA [(202, ob), (205, ab)]) 2) : Rw), row (jb) 29 (full exZ JL cj)] X := hQ.back HL.out HX.out [0, 1, 2, 3, 4, 5, 8, 9, 10, 11, 12, 13, 14, 15, 16, 17, 18, 19, 20, 21, 22, 23, 24] (by decide) (by decide)
  clear hQ HL HX hO
  have hO := hN
  clear hN
  obtain ⟨c9_2_0, lt9_2, y9_2, -⟩ := hO.k1 2 rfl
  obtain ⟨c9_3_0, c9_3_1, c9_3_2, c9_3_3, c9_3_4, lt9_3, y9_3, -⟩ := hO.k5 3 rfl
  obtain ⟨c9_5_0, lt9_5, y9_5, -⟩ := hO.k1 5 rfl
  obtain ⟨c9_6_0, lt9_6, y9_6, -⟩ := hO.k1 6 rfl
  obtain ⟨c9_7_0, c9_7_1, lt9_7, y9_7, -⟩ := hO.k2 7 rfl
  obtain ⟨c9_12_0, c9_12_1, c9_12_2, c9_12_3, c9_12_4, lt9_12, y9_12, -⟩ := hO.k5 12 rfl
  obtain ⟨c9_14_0, c9_14_1, lt9_14, y9_14, -⟩ := hO.k2 14 rfl
  obtain ⟨c9_15_0, c9_15_1, lt9_15, y9_15, -⟩ := hO.k2 15 rfl
  obtain ⟨c9_16_0, c9_16_1, lt9_16, y9_16, -⟩ := hO.k2 16 rfl
  obtain ⟨c9_17_0, c9_17_1, lt9_17, y9_17, -⟩ := hO.k2 17 rfl
  obtain ⟨c9_18_0, c9_18_1, lt9_18, y9_18, -⟩ := hO.k2 18 rfl
  obtain ⟨c9_19_0, c9_19_1, lt9_19, y9_19, -⟩ := hO.k2 19 rfl
  obtain ⟨c9_20_0, lt9_20, y9_20, -⟩ := hO.k1 20 rfl
  obtain ⟨c9_21_0, lt9_21, y9_21, -⟩ := hO.k1 21 rfl
  obtain ⟨c9_22_0, lt9_22, y9_22, -⟩ := hO.k1 22 rfl
  have HO := Lib.hid hO
  clear hO
  go_wp2_with (first | (with_reducible refine Own.stay (fn := Tryz.f43) ?_) | (at_builtin; refine Own.appStop ?_) | fail)
  try with_reducible refine Own.Stay.mk ?_
  have hO := HO.out
  clear HO c9_2_0 lt9_2 y9_2 c9_3_0 c9_3_1 c9_3_2 c9_3_3 c9_3_4 lt9_3 y9_3 c9_5_0 lt9_5 y9_5 c9_6_0 lt9_6 y9_6 c9_7_0 c9_7_1 lt9_7 y9_7 c9_12_0 c9_12_1 c9_12_2 c9_12_3 c9_12_4 lt9_12 y9_12 c9_14_0 c9_14_1 lt9_14 y9_14 c9_15_0 c9_15_1 lt9_15 y9_15 c9_16_0 c9_16_1 lt9_16 y9_16 c9_17_0 c9_17_1 lt9_17 y9_17 c9_18_0 c9_18_1 lt9_18 y9_18 c9_19_0 c9_19_1 lt9_19 y9_19 c9_20_0 lt9_20 y9_20 c9_21_0 lt9_21 y9_21 c9_22_0 lt9_22 y9_22
  have hL := hO.apart
  have hX := hO.apartX
  have HL := Lib.hid hL
  have HX := Lib.hid hX
  clear hL hX
  have hP9 := hO.pick [22, 23, 6, 7, 12, 24] (by decide)
  have h9_hI : ItA JL 0 (tt + 1) := HJ.out
  have h9_hlen : JL.length = (tt + 1) * 2 := hJl
  have h9_ht4 : (tt + 1) ≤ 4096 := (by omega)
  have T9 := visT xm xs xr xp xo xa mb ob ab eb nd34 0 B22_2 jb cj JL (tt + 1) 0 B22_3 0 _ _ _ hP9 h9_hI h9_hlen h9_ht4
  refine Calls.mono T9 ?_
  clear hP9 T9 h9_hI h9_hlen h9_ht4
  rintro e uw40 ⟨nd41, rfl, hQ⟩
  have hN : Own w0 uw40 [row (xm) 246 #[.map (some mb)], ((mb, .map (imA [(202, ob), (205, ab)]) 2) : Rw), row (xa) 210 #[.func (Fn.func 25) #[] #[.pointer (some ⟨eb, 0, none⟩)]], row (eb) 29 #[.iface 241 (.pointer (some ⟨nd41, 0, none⟩)), .int .i32 0], row (B22_2) 207 #[.slice (some ⟨jb, 0, none⟩) (tt + 1) ((tt + 1) + cj), .int .i32 0, .int .i32 0, .bool false, .bool false], row (jb) 29 (full exZ JL cj), row (pb) 182 (((((((PC.setIfInBounds 287 (.int .i64 ((i : Int) + 1))).setIfInBounds 106 (.slice (some ⟨nd4, 0, none⟩) (n + 1) ((n + 1) + nd5))).setIfInBounds 199 (.slice (some ⟨nd6, 0, none⟩) 1 (1 + nd7))).setIfInBounds 287 (.int .i64 (((i + 1) : Int) + 1))).setIfInBounds 106 (.slice (some ⟨nd16, 0, none⟩) ((n + 1) + 1) (((n + 1) + 1) + nd17))).setIfInBounds 199 (.slice (some ⟨nd18, 0, none⟩) (1 + 1) ((1 + 1) + nd19))).setIfInBounds 106 (.slice (some ⟨nd35, 0, none⟩) (((n + 1) + 1) + 1) ((((n + 1) + 1) + 1) + nd36))), row (nd35) 201 (full symZ (symL (bump (bump ((bump (bump ((st ++ [syk (tn i) 27]) ++ [syk (tn (i + 1)) 27]) (n + 1)) (n + 1)) ++ [syk ⟨#[95, 95, 111, 98, 106, 82, 101, 115, 116]⟩ 27]) ((n + 1) + 1)) n)) nd36), row (xr) 251 #[.func (Fn.func 42) #[] #[.pointer (some ⟨xc, 0, none⟩), .pointer (some ⟨xa, 0, none⟩), .pointer (some ⟨xp, 0, none⟩)]], row (ob) 204 #[.slice (some ⟨pr, 0, none⟩) 1 (1 + cp), .int .i32 0, .int .i32 0, .bool false, .bool false], row (pr) 52 (full prZ [.pointer none, .nilIface, .int .i32 0, .iface 56 (.pointer (some ⟨vb, 0, none⟩)), .int .i32 0, .nilIface, .int .i32 0, .slice none 0 0, .int .i32 0, .int .i32 0, .int .u8 5, .int .u8 0] cp), row (xp) 22 #[.pointer (some ⟨pb, 0, none⟩)], ((mp, .map (es.push ⟨.string ⟨#[95, 95, 111, 98, 106, 82, 101, 115, 116]⟩, .agg #[.int .i32 0, .int .u32 src, .int .u32 (((n + 1) + 1) : Int)], k⟩) (k + 1)) : Rw), row (ms) 194 (((MC.setIfInBounds 5 (.slice (some ⟨nd8, 0, none⟩) 1 (1 + nd9))).setIfInBounds 5 (.slice (some ⟨nd20, 0, none⟩) (1 + 1) ((1 + 1) + nd21))).setIfInBounds 5 (.slice (some ⟨nd37, 0, none⟩) ((1 + 1) + 1) ((1 + 1) + 1 + nd38))), row (nd37) 58 (full refZ [.int .u32 src, .int .u32 (n : Int), .int .u32 src, .int .u32 ((n + 1) : Int), .int .u32 src, .int .u32 (((n + 1) + 1) : Int)] nd38), row (ib) 29 (full exZ (putE (putE IL mm [.iface 56 (.pointer (some ⟨B10_2, 0, none⟩)), .int .i32 0]) (mm + 1) [.iface 218 (.pointer (some ⟨B22_5, 0, none⟩)), .int .i32 0]) ci), row (nd18) 295 (full trfZ [.nilIface, .int .i32 0, .int .u32 src, .int .u32 (n : Int), .nilIface, .int .i32 0, .int .u32 src, .int .u32 ((n + 1) : Int)] nd19), row (B13_1) 29 #[.iface 56 (.pointer (some ⟨B22_3, 0, none⟩)), .int .i32 0], row (B13) 29 #[.iface 205 (.pointer (some ⟨B22_2, 0, none⟩)), .int .i32 0], row (B10_1) 29 #[.iface 202 (.pointer (some ⟨ob, 0, none⟩)), .int .i32 0], row (B10) 58 #[.int .u32 src, .int .u32 (n : Int)], row (B1_1) 29 #[.iface 56 (.pointer (some ⟨vi, 0, none⟩)), .int .i32 li], row (B1) 29 #[.iface 56 (.pointer (some ⟨B10_2, 0, none⟩)), .int .i32 0], row (xd) 214 #[.int .u8 0], row (xv) 247 #[.func (Fn.func 45) #[] #[.pointer (some ⟨xm, 0, none⟩), .pointer (some ⟨xs, 0, none⟩), .pointer (some ⟨xr, 0, none⟩), .pointer (some ⟨xp, 0, none⟩), .pointer (some ⟨xo, 0, none⟩), .pointer (some ⟨xa, 0, none⟩)]]] X := hQ.back HL.out HX.out [0, 1, 2, 3, 4, 5, 8, 9, 10, 11, 13, 14, 15, 16, 17, 18, 19, 20, 21] (by decide) (by decide)
  clear hQ HL HX hO
  have hO := hN
  clear hN
  obtain ⟨c9_0_0, lt9_0, y9_0, -⟩ := hO.k1 0 rfl
  obtain ⟨c9_2_0, lt9_2, y9_2, -⟩ := hO.k1 2 rfl
  obtain ⟨c9_3_0, c9_3_1, lt9_3, y9_3, -⟩ := hO.k2 3 rfl
  obtain ⟨c9_4_0, c9_4_1, c9_4_2, c9_4_3, c9_4_4, lt9_4, y9_4, -⟩ := hO.k5 4 rfl
  obtain ⟨c9_8_0, lt9_8, y9_8, -⟩ := hO.k1 8 rfl
  obtain ⟨c9_9_0, c9_9_1, c9_9_2, c9_9_3, c9_9_4, lt9_9, y9_9, -⟩ := hO.k5 9 rfl
  obtain ⟨c9_11_0, lt9_11, y9_11, -⟩ := hO.k1 11 rfl
  obtain ⟨c9_17_0, c9_17_1, lt9_17, y9_17, -⟩ := hO.k2 17 rfl
  obtain ⟨c9_18_0, c9_18_1, lt9_18, y9_18, -⟩ := hO.k2 18 rfl
  obtain ⟨c9_19_0, c9_19_1, lt9_19, y9_19, -⟩ := hO.k2 19 rfl
  obtain ⟨c9_20_0, c9_20_1, lt9_20, y9_20, -⟩ := hO.k2 20 rfl
  obtain ⟨c9_21_0, c9_21_1, lt9_21, y9_21, -⟩ := hO.k2 21 rfl
  obtain ⟨c9_22_0, c9_22_1, lt9_22, y9_22, -⟩ := hO.k2 22 rfl
  obtain ⟨c9_23_0, lt9_23, y9_23, -⟩ := hO.k1 23 rfl
  obtain ⟨c9_24_0, lt9_24, y9_24, -⟩ := hO.k1 24 rfl
  have HO := Lib.hid hO
  clear hO
  go_wp2_with (first | (with_reducible refine Own.stay (fn := Tryz.f43) ?_) | (at_builtin; refine Own.appStop ?_) | fail)
  try with_reducible refine Own.Stay.mk ?_
  have hO := HO.out
  clear HO c9_0_0 lt9_0 y9_0 c9_2_0 lt9_2 y9_2 c9_3_0 c9_3_1 lt9_3 y9_3 c9_4_0 c9_4_1 c9_4_2 c9_4_3 c9_4_4 lt9_4 y9_4 c9_8_0 lt9_8 y9_8 c9_9_0 c9_9_1 c9_9_2 c9_9_3 c9_9_4 lt9_9 y9_9 c9_11_0 lt9_11 y9_11 c9_17_0 c9_17_1 lt9_17 y9_17 c9_18_0 c9_18_1 lt9_18 y9_18 c9_19_0 c9_19_1 lt9_19 y9_19 c9_20_0 c9_20_1 lt9_20 y9_20 c9_21_0 c9_21_1 lt9_21 y9_21 c9_22_0 c9_22_1 lt9_22 y9_22 c9_23_0 lt9_23 y9_23 c9_24_0 lt9_24 y9_24
  have hN : Own w0 uw40 [row (xp) 22 #[.pointer (some ⟨pb, 0, none⟩)], row (xd) 214 #[.int .u8 0], row (xa) 210 #[.func (Fn.func 25) #[] #[.pointer (some ⟨eb, 0, none⟩)]], row (xv) 247 #[.func (Fn.func 45) #[] #[.pointer (some ⟨xm, 0, none⟩), .pointer (some ⟨xs, 0, none⟩), .pointer (some ⟨xr, 0, none⟩), .pointer (some ⟨xp, 0, none⟩), .pointer (some ⟨xo, 0, none⟩), .pointer (some ⟨xa, 0, none⟩)]], row (xm) 246 #[.map (some mb)], row (xr) 251 #[.func (Fn.func 42) #[] #[.pointer (some ⟨xc, 0, none⟩), .pointer (some ⟨xa, 0, none⟩), .pointer (some ⟨xp, 0, none⟩)]], ((mb, .map (imA [(202, ob), (205, ab)]) 2) : Rw), row (eb) 29 #[.iface 241 (.pointer (some ⟨nd41, 0, none⟩)), .int .i32 0], row (ib) 29 (full exZ (putE (putE IL mm [.iface 56 (.pointer (some ⟨B10_2, 0, none⟩)), .int .i32 0]) (mm + 1) [.iface 218 (.pointer (some ⟨B22_5, 0, none⟩)), .int .i32 0]) ci), row (jb) 29 (full exZ JL cj), row (ob) 204 #[.slice (some ⟨pr, 0, none⟩) 1 (1 + cp), .int .i32 0, .int .i32 0, .bool false, .bool false], row (pr) 52 (full prZ [.pointer none, .nilIface, .int .i32 0, .iface 56 (.pointer (some ⟨vb, 0, none⟩)), .int .i32 0, .nilIface, .int .i32 0, .slice none 0 0, .int .i32 0, .int .i32 0, .int .u8 5, .int .u8 0] cp), row (pb) 182 (((((((PC.setIfInBounds 287 (.int .i64 ((i : Int) + 1))).setIfInBounds 106 (.slice (some ⟨nd4, 0, none⟩) (n + 1) ((n + 1) + nd5))).setIfInBounds 199 (.slice (some ⟨nd6, 0, none⟩) 1 (1 + nd7))).setIfInBounds 287 (.int .i64 (((i + 1) : Int) + 1))).setIfInBounds 106 (.slice (some ⟨nd16, 0, none⟩) ((n + 1) + 1) (((n + 1) + 1) + nd17))).setIfInBounds 199 (.slice (some ⟨nd18, 0, none⟩) (1 + 1) ((1 + 1) + nd19))).setIfInBounds 106 (.slice (some ⟨nd35, 0, none⟩) (((n + 1) + 1) + 1) ((((n + 1) + 1) + 1) + nd36))), row (nd35) 201 (full symZ (symL (bump (bump ((bump (bump ((st ++ [syk (tn i) 27]) ++ [syk (tn (i + 1)) 27]) (n + 1)) (n + 1)) ++ [syk ⟨#[95, 95, 111, 98, 106, 82, 101, 115, 116]⟩ 27]) ((n + 1) + 1)) n)) nd36), ((mp, .map (es.push ⟨.string ⟨#[95, 95, 111, 98, 106, 82, 101, 115, 116]⟩, .agg #[.int .i32 0, .int .u32 src, .int .u32 (((n + 1) + 1) : Int)], k⟩) (k + 1)) : Rw), row (ms) 194 (((MC.setIfInBounds 5 (.slice (some ⟨nd8, 0, none⟩) 1 (1 + nd9))).setIfInBounds 5 (.slice (some ⟨nd20, 0, none⟩) (1 + 1) ((1 + 1) + nd21))).setIfInBounds 5 (.slice (some ⟨nd37, 0, none⟩) ((1 + 1) + 1) ((1 + 1) + 1 + nd38))), row (nd37) 58 (full refZ [.int .u32 src, .int .u32 (n : Int), .int .u32 src, .int .u32 ((n + 1) : Int), .int .u32 src, .int .u32 (((n + 1) + 1) : Int)] nd38), row (nd18) 295 (full trfZ [.nilIface, .int .i32 0, .int .u32 src, .int .u32 (n : Int), .nilIface, .int .i32 0, .int .u32 src, .int .u32 ((n + 1) : Int)] nd19)] X := hO.sub [11, 23, 2, 24, 0, 8, 1, 3, 15, 5, 9, 10, 6, 7, 12, 13, 14, 16] (by decide)
  clear hO
  have hO := hN
  clear hN
  have hN : Own w0 uw40 [row (xp) 22 #[.pointer (some ⟨pb, 0, none⟩)], row (xd) 214 #[.int .u8 0], row (xa) 210 #[.func (Fn.func 25) #[] #[.pointer (some ⟨eb, 0, none⟩)]], row (xv) 247 #[.func (Fn.func 45) #[] #[.pointer (some ⟨xm, 0, none⟩), .pointer (some ⟨xs, 0, none⟩), .pointer (some ⟨xr, 0, none⟩), .pointer (some ⟨xp, 0, none⟩), .pointer (some ⟨xo, 0, none⟩), .pointer (some ⟨xa, 0, none⟩)]], row (xm) 246 #[.map (some mb)], row (xr) 251 #[.func (Fn.func 42) #[] #[.pointer (some ⟨xc, 0, none⟩), .pointer (some ⟨xa, 0, none⟩), .pointer (some ⟨xp, 0, none⟩)]], ((mb, .map (imA [(202, ob), (205, ab)]) 2) : Rw), row (eb) 29 #[.iface 241 (.pointer (some ⟨nd41, 0, none⟩)), .int .i32 0], row (ib) 29 (full exZ (iW 1 IL mm B10_2 B22_5) ci), row (jb) 29 (full exZ JL cj), row (ob) 204 #[.slice (some ⟨pr, 0, none⟩) 1 (1 + cp), .int .i32 0, .int .i32 0, .bool false, .bool false], row (pr) 52 (full prZ [.pointer none, .nilIface, .int .i32 0, .iface 56 (.pointer (some ⟨vb, 0, none⟩)), .int .i32 0, .nilIface, .int .i32 0, .slice none 0 0, .int .i32 0, .int .i32 0, .int .u8 5, .int .u8 0] cp), row (pb) 182 (pcW PC i n 1 nd35 nd36 nd18 nd19), row (nd35) 201 (full symZ (symL (stW 1 i n st)) nd36), ((mp, .map (es.push ⟨.string ⟨#[95, 95, 111, 98, 106, 82, 101, 115, 116]⟩, .agg #[.int .i32 0, .int .u32 src, .int .u32 ((n + 1 + 1 : Nat) : Int)], k⟩) (k + 1)) : Rw), row (ms) 194 (MC.setIfInBounds 5 (.slice (some ⟨nd37, 0, none⟩) (2 + 1) (2 + 1 + nd38))), row (nd37) 58 (full refZ (gW 1 src n) nd38), row (nd18) 295 (full trfZ (qW 1 src n) nd19)] X := hO.conv (by
    rw [tow1, Array.setIfInBounds_setIfInBounds, Array.setIfInBounds_setIfInBounds]
    rfl)
  clear hO
  have hO := hN
  clear hN
  refine bodyPost_ret (v := .tuple #[]) ?_ rfl ⟨nd35, nd36, nd18, nd19, nd37, nd38, nd41, B10_2, B22_5, rfl, hO.sub [0, 1, 2, 3, 4, 5, 6, 7, 8, 9, 10, 11, 12, 13, 14, 15, 16, 17] (by decide)⟩
  simp [results, Tryz.results43, go_sem]
end Go.Proofs.YtghofdhhhbbaaaaGreatDoor.Use
namespace Go.Proofs.YtghofdhhhbbaaaaGreatDoor.Use
open Go.ChangeShapes Go.WideShapes Go.ChangeAt Go.RowKit Go.Sort Own
set_option linter.unusedVariables false
def splituPost (pb : Nat) (PC : Array Value) (sb c : Nat) (st : List Sy) (n : Nat) (src : Int) (i mp : Nat) (es : Array MapEntry) (k ms : Nat) (MC : Array Value) (xp xd xa xv xm xs xr xo xc eb : Nat) (wa : Int) (ab ib ci : Nat) (IL : List Value) (mm tt ob pr cp vb mb jb cj : Nat) (JL : List Value) (vi : Nat) (li : Int) (w0 : World) (X : Nat → Obj → Prop) (e : Ending) (w' : World) : Prop :=
  ∃ sb2 : Nat, ∃ c2 : Nat, ∃ qb2 : Nat, ∃ cq2 : Nat, ∃ gb2 : Nat, ∃ cg2 : Nat, ∃ xn : Nat, ∃ b1 : Nat, ∃ b2 : Nat, e = .returned (.tuple #[]) ∧ Own w0 w' [row (xp) 22 #[.pointer (some ⟨pb, 0, none⟩)], row (xd) 214 #[.int .u8 0], row (xa) 210 #[.func (Fn.func 25) #[] #[.pointer (some ⟨eb, 0, none⟩)]], row (xv) 247 #[.func (Fn.func 45) #[] #[.pointer (some ⟨xm, 0, none⟩), .pointer (some ⟨xs, 0, none⟩), .pointer (some ⟨xr, 0, none⟩), .pointer (some ⟨xp, 0, none⟩), .pointer (some ⟨xo, 0, none⟩), .pointer (some ⟨xa, 0, none⟩)]], row (xm) 246 #[.map (some mb)], row (xr) 251 #[.func (Fn.func 42) #[] #[.pointer (some ⟨xc, 0, none⟩), .pointer (some ⟨xa, 0, none⟩), .pointer (some ⟨xp, 0, none⟩)]], ((mb, .map (imA [(202, ob), (205, ab)]) 2) : Rw), row (eb) 29 #[.iface 241 (.pointer (some ⟨xn, 0, none⟩)), .int .i32 0], row (ib) 29 (full exZ (iW (xt tt) IL mm b1 b2) ci), row (jb) 29 (full exZ JL cj), row (ob) 204 #[.slice (some ⟨pr, 0, none⟩) 1 (1 + cp), .int .i32 0, .int .i32 0, .bool false, .bool false], row (pr) 52 (full prZ [.pointer none, .nilIface, .int .i32 0, .iface 56 (.pointer (some ⟨vb, 0, none⟩)), .int .i32 0, .nilIface, .int .i32 0, .slice none 0 0, .int .i32 0, .int .i32 0, .int .u8 5, .int .u8 0] cp), row (pb) 182 (pcW PC i n (xt tt) sb2 c2 qb2 cq2), row (sb2) 201 (full symZ (symL (stW (xt tt) i n st)) c2), ((mp, .map (es.push ⟨.string ⟨#[95, 95, 111, 98, 106, 82, 101, 115, 116]⟩, .agg #[.int .i32 0, .int .u32 src, .int .u32 ((n + 1 + (xt tt) : Nat) : Int)], k⟩) (k + 1)) : Rw), row (ms) 194 (MC.setIfInBounds 5 (.slice (some ⟨gb2, 0, none⟩) (2 + (xt tt)) (2 + (xt tt) + cg2))), row (gb2) 58 (full refZ (gW (xt tt) src n) cg2), row (qb2) 295 (full trfZ (qW (xt tt) src n) cq2)] X
set_option maxHeartbeats 1000000 in
theorem splitu (pb : Nat) (PC : Array Value) (sb c : Nat) (st : List Sy) (n : Nat) (src : Int) (i mp : Nat) (es : Array MapEntry) (k ms : Nat) (MC : Array Value) (xp xd xa xv xm xs xr xo xc eb : Nat) (wa : Int) (ab ib ci : Nat) (IL : List Value) (mm tt ob pr cp vb mb jb cj : Nat) (JL : List Value) (vi : Nat) (li : Int) (w0 w : World) (X : Nat → Obj → Prop) (hO : Own w0 w [row (xp) 22 #[.pointer (some ⟨pb, 0, none⟩)], row (xd) 214 #[.int .u8 0], row (xa) 210 #[.func (Fn.func 25) #[] #[.pointer (some ⟨eb, 0, none⟩)]], row (xv) 247 #[.func (Fn.func 45) #[] #[.pointer (some ⟨xm, 0, none⟩), .pointer (some ⟨xs, 0, none⟩), .pointer (some ⟨xr, 0, none⟩), .pointer (some ⟨xp, 0, none⟩), .pointer (some ⟨xo, 0, none⟩), .pointer (some ⟨xa, 0, none⟩)]], row (xm) 246 #[.map (some mb)], row (xr) 251 #[.func (Fn.func 42) #[] #[.pointer (some ⟨xc, 0, none⟩), .pointer (some ⟨xa, 0, none⟩), .pointer (some ⟨xp, 0, none⟩)]], ((mb, .map (imA [(202, ob), (205, ab)]) 2) : Rw), row (eb) 29 #[.nilIface, .int .i32 wa], row (ib) 29 (full exZ IL ci), row (jb) 29 (full exZ JL cj), row (ob) 204 #[.slice (some ⟨pr, 0, none⟩) 1 (1 + cp), .int .i32 0, .int .i32 0, .bool false, .bool false], row (pr) 52 (full prZ [.pointer none, .nilIface, .int .i32 0, .iface 56 (.pointer (some ⟨vb, 0, none⟩)), .int .i32 0, .nilIface, .int .i32 0, .slice none 0 0, .int .i32 0, .int .i32 0, .int .u8 5, .int .u8 0] cp), row (pb) 182 PC, row (sb) 201 (full symZ (symL st) c), ((mp, .map es k) : Rw), row (ms) 194 MC] X) (hk350 : PC[350]? = some (.bool false)) (hk32 : PC[32]? = some (.bool false)) (hk105 : PC[105]? = some (.pointer none)) (hk66 : PC[66]? = some (.int .u32 src)) (hk117 : PC[117]? = some (.map (some mp))) (hk187 : PC[187]? = some (.pointer (some ⟨ms, 0, none⟩))) (hk104 : PC[104]? = some (.pointer (some ⟨ms, 0, none⟩))) (hkind : MC[15]? = some (.int .u8 6)) (hk287 : PC[287]? = some (.int .i64 (i : Int))) (hk199 : PC[199]? = some (.slice none 0 0)) (hgen : MC[5]? = some (.slice none 0 0)) (hk106 : PC[106]? = some (.slice (some ⟨sb, 0, none⟩) n (n + c))) (hn : st.length = n) (hnb : n ≤ 1000000) (hi : i ≤ 1000) (hub : UcB st 1000) (hno : Instr.findNow .string (.string ⟨#[95, 95, 111, 98, 106, 82, 101, 115, 116]⟩) es.toList 0 = some none) (hg0 : w0.cell? ⟨0, 0, none⟩ = some (.int .u32 4294967295)) (hg1 : w0.cell? ⟨0, 1, none⟩ = some (.int .u32 4294967295)) (hlen : IL.length = (mm + 1 + tt) * 2) (hJ : ItA JL 0 tt) (hJl : JL.length = tt * 2) (hm4 : mm ≤ 4096) (ht4 : tt ≤ 4096) :
    Calls Tryz.prog 43 #[.slice (some ⟨ib, 0, none⟩) mm (mm + 1 + tt + ci), .agg #[.iface 202 (.pointer (some ⟨ob, 0, none⟩)), .int .i32 0], .slice (some ⟨jb, 0, none⟩) tt (tt + cj), .agg #[.iface 56 (.pointer (some ⟨vi, 0, none⟩)), .int .i32 li], .bool false, .pointer (some ⟨xp, 0, none⟩), .pointer (some ⟨xd, 0, none⟩), .pointer (some ⟨xa, 0, none⟩), .pointer (some ⟨xv, 0, none⟩)] w (splituPost pb PC sb c st n src i mp es k ms MC xp xd xa xv xm xs xr xo xc eb wa ab ib ci IL mm tt ob pr cp vb mb jb cj JL vi li w0 X) := by
  cases tt with
  | zero => exact split0 pb PC sb c st n src i mp es k ms MC xp xd xa xv xm xs xr xo xc eb wa ab ib ci IL mm ob pr cp vb mb jb cj JL vi li w0 w X hO hk350 hk32 hk105 hk66 hk117 hk187 hk104 hkind hk287 hk199 hgen hk106 hn hnb hi hub hno hg0 hg1 hlen hJ hJl hm4
  | succ tt => exact split1 pb PC sb c st n src i mp es k ms MC xp xd xa xv xm xs xr xo xc eb wa ab ib ci IL mm tt ob pr cp vb mb jb cj JL vi li w0 w X hO hk350 hk32 hk105 hk66 hk117 hk187 hk104 hkind hk287 hk199 hgen hk106 hn hnb hi hub hno hg0 hg1 hlen hJ hJl hm4 ht4

end Go.Proofs.YtghofdhhhbbaaaaGreatDoor.Use
