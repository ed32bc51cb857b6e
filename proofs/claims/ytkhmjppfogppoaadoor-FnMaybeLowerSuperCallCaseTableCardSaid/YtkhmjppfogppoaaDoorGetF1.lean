/- A super property read, the helper not imported yet. No condition. -/
import Derived.Test.YtkhmjppfogppoaaDoorLive
import Derived.Test.YtkhmjppfogppoaaDoorApp
import Derived.Test.YtkhmjppfogppoaaDoorOwnK
import Derived.Test.YtkhmjppfogppoaaDoorOwn
import Derived.Test.YtkhmjppfogppoaaDoorDeepCells
import Derived.Test.YtkhmjppfogppoaaDoorRows
import Derived.Test.YtkhmjppfogppoaaDoorUse
namespace Go.Proofs.YtkhmjppfogppoaaDoor.Use
open Go.ChangeShapes Go.WideShapes Go.ChangeAt Go.RowKit Go.Sort Own
set_option linter.unusedVariables false
def supGetriF0i0Post (pb : Nat) (PC : Array Value) (sb c mp ms : Nat) (MC : Array Value) (cr : Nat) (loc : Int) (kT kx : Nat) (kl : Int) (w0 : World) (X : Nat → Obj → Prop) (e : Ending) (w' : World) : Prop :=
  ∃ ca : Nat, ∃ b : Nat, ∃ sx : Nat, ∃ i1 : Nat, ∃ i2 : Nat, ∃ d1 : Nat, ∃ sb2 : Nat, ∃ c2 : Nat, ∃ gb2 : Nat, ∃ cg2 : Nat, e = .returned (.agg #[.iface 65 (.pointer (some ⟨ca, 0, none⟩)), .int .i32 loc]) ∧ Own w0 w' [row (pb) 193 (PC.setIfInBounds 106 (.slice (some ⟨sb2, 0, none⟩) 2 (2 + c2))), row (sb2) 56 (full symZ (symL ([sy ⟨#[70, 111, 111]⟩ 2, sy ⟨#[95, 95, 115, 117, 112, 101, 114, 71, 101, 116]⟩ 1])) c2), ((mp, .map #[⟨.string ⟨#[95, 95, 115, 117, 112, 101, 114, 71, 101, 116]⟩, .agg #[.int .i32 loc, .int .u32 0, .int .u32 1], 0⟩] 1) : Rw), row (ms) 203 (MC.setIfInBounds 5 (.slice (some ⟨gb2, 0, none⟩) 1 (1 + cg2))), row (gb2) 25 (full refZ ([.int .u32 0, .int .u32 1]) cg2), row (cr) 25 #[.int .u32 0, .int .u32 0], row (b) 211 #[.int .u32 0, .int .u32 1, .bool false, .bool false, .bool false], row (ca) 71 #[.iface 209 (.pointer (some ⟨b, 0, none⟩)), .int .i32 loc, .slice (some ⟨sx, 0, none⟩) 3 3, .int .i32 0, .int .u8 0, .int .u8 0, .bool false, .bool false], row (sx) 35 #[.iface 225 (.pointer (some ⟨d1, 0, none⟩)), .int .i32 loc, .iface 209 (.pointer (some ⟨i2, 0, none⟩)), .int .i32 loc, .iface kT (.pointer (some ⟨kx, 0, none⟩)), .int .i32 kl], row (i1) 211 #[.int .u32 0, .int .u32 0, .bool false, .bool false, .bool false], row (i2) 211 #[.int .u32 0, .int .u32 0, .bool false, .bool false, .bool false], row (d1) 228 #[.iface 209 (.pointer (some ⟨i1, 0, none⟩)), .int .i32 loc, .string ⟨#[112, 114, 111, 116, 111, 116, 121, 112, 101]⟩, .int .i32 loc, .int .u8 0, .bool false, .bool false, .bool false]] X
set_option maxRecDepth 100000 in
set_option maxHeartbeats 1000000 in
theorem supGetriF0i0 (pb : Nat) (PC : Array Value) (sb c mp ms : Nat) (MC : Array Value) (cr : Nat) (loc : Int) (kT kx : Nat) (kl : Int) (w0 w : World) (X : Nat → Obj → Prop) (hO : Own w0 w [row (pb) 193 PC, row (sb) 56 (full symZ (symL ([sy ⟨#[70, 111, 111]⟩ 0])) c), ((mp, .map #[] 0) : Rw), row (ms) 203 MC, row (cr) 25 #[.int .u32 0, .int .u32 0]] X) (hk350 : PC[350]? = some (.bool false)) (hk32 : PC[32]? = some (.bool false)) (hk105 : PC[105]? = some (.pointer none)) (hk66 : PC[66]? = some (.int .u32 0)) (hk117 : PC[117]? = some (.map (some mp))) (hk187 : PC[187]? = some (.pointer (some ⟨ms, 0, none⟩))) (hk97 : PC[97]? = some (.pointer (some ⟨cr, 0, none⟩))) (hk95 : PC[95]? = some (.bool true)) (hk96 : PC[96]? = some (.bool false)) (hk106 : PC[106]? = some (.slice (some ⟨sb, 0, none⟩) 1 (1 + c))) (hgen : MC[5]? = some (.slice none 0 0)) (hg0 : w0.cell? ⟨0, 0, none⟩ = some (.int .u32 4294967295)) (hg1 : w0.cell? ⟨0, 1, none⟩ = some (.int .u32 4294967295)) :
    Calls Tryd.prog 52 #[.pointer (some ⟨pb, 0, none⟩), .agg #[.int .i32 loc], .agg #[.iface kT (.pointer (some ⟨kx, 0, none⟩)), .int .i32 kl]] w (supGetriF0i0Post pb PC sb c mp ms MC cr loc kT kx kl w0 X) := by
  go_enter Tryd.func52, Tryd.ntmps52
  obtain ⟨ix9, hix9, hax9, hjx9⟩ := hO.ix
  have ix9_0 : ix9 pb = 0 := hjx9 0 _ _ rfl
  have ix9_1 : ix9 sb = 1 := hjx9 1 _ _ rfl
  have ix9_2 : ix9 mp = 2 := hjx9 2 _ _ rfl
  have ix9_3 : ix9 ms = 3 := hjx9 3 _ _ rfl
  have ix9_4 : ix9 cr = 4 := hjx9 4 _ _ rfl
  clear hjx9
  have c9_0_32 : w.cell? ⟨pb, 32, none⟩ = some (.bool false) := hO.cell 0 rfl 32 (hk32)
  have c9_0_66 : w.cell? ⟨pb, 66, none⟩ = some (.int .u32 0) := hO.cell 0 rfl 66 (hk66)
  have c9_0_95 : w.cell? ⟨pb, 95, none⟩ = some (.bool true) := hO.cell 0 rfl 95 (hk95)
  have c9_0_96 : w.cell? ⟨pb, 96, none⟩ = some (.bool false) := hO.cell 0 rfl 96 (hk96)
  have c9_0_97 : w.cell? ⟨pb, 97, none⟩ = some (.pointer (some ⟨cr, 0, none⟩)) := hO.cell 0 rfl 97 (hk97)
  have c9_0_105 : w.cell? ⟨pb, 105, none⟩ = some (.pointer none) := hO.cell 0 rfl 105 (hk105)
  have c9_0_106 : w.cell? ⟨pb, 106, none⟩ = some (.slice (some ⟨sb, 0, none⟩) 1 (1 + c)) := hO.cell 0 rfl 106 (hk106)
  have c9_0_117 : w.cell? ⟨pb, 117, none⟩ = some (.map (some mp)) := hO.cell 0 rfl 117 (hk117)
  have c9_0_187 : w.cell? ⟨pb, 187, none⟩ = some (.pointer (some ⟨ms, 0, none⟩)) := hO.cell 0 rfl 187 (hk187)
  have c9_0_350 : w.cell? ⟨pb, 350, none⟩ = some (.bool false) := hO.cell 0 rfl 350 (hk350)
  have lt9_0 : pb < w.heap.size := hO.lt 0 rfl
  have y9_0 : ∀ o, w.frozen? ⟨pb, o, none⟩ = false := hO.free 0 rfl
  have c9_3_5 : w.cell? ⟨ms, 5, none⟩ = some (.slice none 0 0) := hO.cell 3 rfl 5 (hgen)
  have lt9_3 : ms < w.heap.size := hO.lt 3 rfl
  have y9_3 : ∀ o, w.frozen? ⟨ms, o, none⟩ = false := hO.free 3 rfl
  obtain ⟨c9_4_0, c9_4_1, lt9_4, y9_4, -⟩ := hO.k2 4 rfl
  have HO := Lib.hid hO
  clear hO
  go_wp2_with (first | (with_reducible refine Own.stay (fn := Tryd.f52) ?_) | fail)
  try with_reducible refine Own.Stay.mk ?_
  have hO := HO.out
  clear HO hix9 hax9 ix9_0 ix9_1 ix9_2 ix9_3 ix9_4 ix9 c9_0_32 c9_0_66 c9_0_95 c9_0_96 c9_0_97 c9_0_105 c9_0_106 c9_0_117 c9_0_187 c9_0_350 lt9_0 y9_0 c9_3_5 lt9_3 y9_3 c9_4_0 c9_4_1 lt9_4 y9_4
  generalize hW : World.alloc _ _ = W2
  have hN : Own w0 W2 [row (w.heap.size + 1 + 1 + 1) 25 #[.int .u32 0, .int .u32 0], row (w.heap.size + 1 + 1) 35 #[.nilIface, .int .i32 0], row (w.heap.size + 1) 35 #[.iface kT (.pointer (some ⟨kx, 0, none⟩)), .int .i32 kl], row (w.heap.size) 31 #[.int .i32 loc], row (pb) 193 PC, row (sb) 56 (full symZ (symL ([sy ⟨#[70, 111, 111]⟩ 0])) c), ((mp, .map #[] 0) : Rw), row (ms) 203 MC, row (cr) 25 #[.int .u32 0, .int .u32 0]] X := by
    rw [← hW]
    exact ((((hO).alloc' _ (w.heap.size) (by simp)).alloc' _ (w.heap.size + 1) (by simp)).alloc' _ (w.heap.size + 1 + 1) (by simp)).alloc' _ (w.heap.size + 1 + 1 + 1) (by simp)
  clear hW hO
  generalize w.heap.size + 1 + 1 + 1 = B1_3 at hN ⊢
  generalize w.heap.size + 1 + 1 = B1_2 at hN ⊢
  generalize w.heap.size + 1 = B1_1 at hN ⊢
  generalize w.heap.size = B1 at hN ⊢
  have hO := hN
  clear hN
  have hL := hO.apart
  have hX := hO.apartX
  have HL := Lib.hid hL
  have HX := Lib.hid hX
  clear hL hX
  have hP9 := hO.pick [4, 5] (by decide)
  have h9_hn : ([sy ⟨#[70, 111, 111]⟩ 0]).length = 1 := rfl
  have h9_hnb : 1 ≤ 4000000 := (by decide)
  have h9_hu : ∃ s, ([sy ⟨#[70, 111, 111]⟩ 0])[0]? = some s ∧ s.uc < 4294967295 := ⟨_, rfl, by decide⟩
  have T9 := useG pb PC sb c ([sy ⟨#[70, 111, 111]⟩ 0]) 1 0 0 _ _ _ hP9 hk350 hk32 hk105 hk106 h9_hn h9_hnb h9_hu
  refine Calls.mono T9 ?_
  clear hP9 T9 h9_hn h9_hnb h9_hu
  rintro e u3 ⟨rfl, hQ⟩
  have hN : Own w0 u3 [row (pb) 193 PC, row (sb) 56 (full symZ (symL (bump ([sy ⟨#[70, 111, 111]⟩ 0]) 0)) c), row (B1_3) 25 #[.int .u32 0, .int .u32 0], row (B1_2) 35 #[.nilIface, .int .i32 0], row (B1_1) 35 #[.iface kT (.pointer (some ⟨kx, 0, none⟩)), .int .i32 kl], row (B1) 31 #[.int .i32 loc], ((mp, .map #[] 0) : Rw), row (ms) 203 MC, row (cr) 25 #[.int .u32 0, .int .u32 0]] X := hQ.back HL.out HX.out [0, 1, 2, 3, 6, 7, 8] (by decide) (by decide)
  clear hQ HL HX hO
  have hO := hN
  clear hN
  obtain ⟨ix9, hix9, hax9, hjx9⟩ := hO.ix
  have ix9_0 : ix9 pb = 0 := hjx9 0 _ _ rfl
  have ix9_1 : ix9 sb = 1 := hjx9 1 _ _ rfl
  have ix9_2 : ix9 B1_3 = 2 := hjx9 2 _ _ rfl
  have ix9_3 : ix9 B1_2 = 3 := hjx9 3 _ _ rfl
  have ix9_4 : ix9 B1_1 = 4 := hjx9 4 _ _ rfl
  have ix9_5 : ix9 B1 = 5 := hjx9 5 _ _ rfl
  have ix9_6 : ix9 mp = 6 := hjx9 6 _ _ rfl
  have ix9_7 : ix9 ms = 7 := hjx9 7 _ _ rfl
  have ix9_8 : ix9 cr = 8 := hjx9 8 _ _ rfl
  clear hjx9
  have c9_0_32 : u3.cell? ⟨pb, 32, none⟩ = some (.bool false) := hO.cell 0 rfl 32 (hk32)
  have c9_0_66 : u3.cell? ⟨pb, 66, none⟩ = some (.int .u32 0) := hO.cell 0 rfl 66 (hk66)
  have c9_0_95 : u3.cell? ⟨pb, 95, none⟩ = some (.bool true) := hO.cell 0 rfl 95 (hk95)
  have c9_0_96 : u3.cell? ⟨pb, 96, none⟩ = some (.bool false) := hO.cell 0 rfl 96 (hk96)
  have c9_0_97 : u3.cell? ⟨pb, 97, none⟩ = some (.pointer (some ⟨cr, 0, none⟩)) := hO.cell 0 rfl 97 (hk97)
  have c9_0_105 : u3.cell? ⟨pb, 105, none⟩ = some (.pointer none) := hO.cell 0 rfl 105 (hk105)
  have c9_0_106 : u3.cell? ⟨pb, 106, none⟩ = some (.slice (some ⟨sb, 0, none⟩) 1 (1 + c)) := hO.cell 0 rfl 106 (hk106)
  have c9_0_117 : u3.cell? ⟨pb, 117, none⟩ = some (.map (some mp)) := hO.cell 0 rfl 117 (hk117)
  have c9_0_187 : u3.cell? ⟨pb, 187, none⟩ = some (.pointer (some ⟨ms, 0, none⟩)) := hO.cell 0 rfl 187 (hk187)
  have c9_0_350 : u3.cell? ⟨pb, 350, none⟩ = some (.bool false) := hO.cell 0 rfl 350 (hk350)
  have lt9_0 : pb < u3.heap.size := hO.lt 0 rfl
  have y9_0 : ∀ o, u3.frozen? ⟨pb, o, none⟩ = false := hO.free 0 rfl
  obtain ⟨c9_2_0, c9_2_1, lt9_2, y9_2, pl9_2⟩ := hO.k2 2 rfl
  obtain ⟨c9_3_0, c9_3_1, lt9_3, y9_3, pl9_3⟩ := hO.k2 3 rfl
  obtain ⟨c9_4_0, c9_4_1, lt9_4, y9_4, pl9_4⟩ := hO.k2 4 rfl
  obtain ⟨c9_5_0, lt9_5, y9_5, pl9_5⟩ := hO.k1 5 rfl
  have c9_7_5 : u3.cell? ⟨ms, 5, none⟩ = some (.slice none 0 0) := hO.cell 7 rfl 5 (hgen)
  have lt9_7 : ms < u3.heap.size := hO.lt 7 rfl
  have y9_7 : ∀ o, u3.frozen? ⟨ms, o, none⟩ = false := hO.free 7 rfl
  obtain ⟨c9_8_0, c9_8_1, lt9_8, y9_8, pl9_8⟩ := hO.k2 8 rfl
  have HO := Lib.hid hO
  clear hO
  go_wp2_with (first | (with_reducible refine Own.stay (fn := Tryd.f52) ?_) | fail)
  try with_reducible refine Own.Stay.mk ?_
  have hO := HO.out
  clear HO hix9 hax9 ix9_0 ix9_1 ix9_2 ix9_3 ix9_4 ix9_5 ix9_6 ix9_7 ix9_8 ix9 c9_0_32 c9_0_66 c9_0_95 c9_0_96 c9_0_97 c9_0_105 c9_0_106 c9_0_117 c9_0_187 c9_0_350 lt9_0 y9_0 c9_2_0 c9_2_1 lt9_2 y9_2 pl9_2 c9_3_0 c9_3_1 lt9_3 y9_3 pl9_3 c9_4_0 c9_4_1 lt9_4 y9_4 pl9_4 c9_5_0 lt9_5 y9_5 pl9_5 c9_7_5 lt9_7 y9_7 c9_8_0 c9_8_1 lt9_8 y9_8 pl9_8
  generalize hW : World.alloc _ _ = W5
  have hN : Own w0 W5 [row (u3.heap.size + 1 + 1 + 1) 35 #[.iface 237 (.pointer (some ⟨u3.heap.size + 1 + 1, 0, none⟩)), .int .i32 loc], row (u3.heap.size + 1 + 1) 241 #[], row (u3.heap.size + 1) 35 #[.iface 209 (.pointer (some ⟨u3.heap.size, 0, none⟩)), .int .i32 loc], row (u3.heap.size) 211 #[.int .u32 0, .int .u32 0, .bool false, .bool false, .bool false], row (pb) 193 PC, row (sb) 56 (full symZ (symL (bump ([sy ⟨#[70, 111, 111]⟩ 0]) 0)) c), row (B1_3) 25 #[.int .u32 0, .int .u32 0], row (B1_2) 35 #[.nilIface, .int .i32 0], row (B1_1) 35 #[.iface kT (.pointer (some ⟨kx, 0, none⟩)), .int .i32 kl], row (B1) 31 #[.int .i32 loc], ((mp, .map #[] 0) : Rw), row (ms) 203 MC, row (cr) 25 #[.int .u32 0, .int .u32 0]] X := by
    rw [← hW]
    exact ((((hO).alloc' _ (u3.heap.size) (by simp)).alloc' _ (u3.heap.size + 1) (by simp)).alloc' _ (u3.heap.size + 1 + 1) (by simp)).alloc' _ (u3.heap.size + 1 + 1 + 1) (by simp)
  clear hW hO
  generalize u3.heap.size + 1 + 1 + 1 = B4_3 at hN ⊢
  generalize u3.heap.size + 1 + 1 = B4_2 at hN ⊢
  generalize u3.heap.size + 1 = B4_1 at hN ⊢
  generalize u3.heap.size = B4 at hN ⊢
  have hO := hN
  clear hN
  have hL := hO.apart
  have hX := hO.apartX
  have HL := Lib.hid hL
  have HX := Lib.hid hX
  clear hL hX
  have hP9 := hO.pick [4, 5] (by decide)
  have h9_hn : (bump [sy ⟨#[70, 111, 111]⟩ 0] 0).length = 1 := rfl
  have h9_hnb : 1 ≤ 4000000 := (by decide)
  have h9_hu : ∃ s, (bump [sy ⟨#[70, 111, 111]⟩ 0] 0)[0]? = some s ∧ s.uc < 4294967295 := ⟨_, rfl, by decide⟩
  have T9 := useG pb PC sb c (bump [sy ⟨#[70, 111, 111]⟩ 0] 0) 1 0 0 _ _ _ hP9 hk350 hk32 hk105 hk106 h9_hn h9_hnb h9_hu
  refine Calls.mono T9 ?_
  clear hP9 T9 h9_hn h9_hnb h9_hu
  rintro e u6 ⟨rfl, hQ⟩
  have hN : Own w0 u6 [row (pb) 193 PC, row (sb) 56 (full symZ (symL (bump (bump [sy ⟨#[70, 111, 111]⟩ 0] 0) 0)) c), row (B4_3) 35 #[.iface 237 (.pointer (some ⟨B4_2, 0, none⟩)), .int .i32 loc], row (B4_2) 241 #[], row (B4_1) 35 #[.iface 209 (.pointer (some ⟨B4, 0, none⟩)), .int .i32 loc], row (B4) 211 #[.int .u32 0, .int .u32 0, .bool false, .bool false, .bool false], row (B1_3) 25 #[.int .u32 0, .int .u32 0], row (B1_2) 35 #[.nilIface, .int .i32 0], row (B1_1) 35 #[.iface kT (.pointer (some ⟨kx, 0, none⟩)), .int .i32 kl], row (B1) 31 #[.int .i32 loc], ((mp, .map #[] 0) : Rw), row (ms) 203 MC, row (cr) 25 #[.int .u32 0, .int .u32 0]] X := hQ.back HL.out HX.out [0, 1, 2, 3, 6, 7, 8, 9, 10, 11, 12] (by decide) (by decide)
  clear hQ HL HX hO
  have hO := hN
  clear hN
  obtain ⟨ix9, hix9, hax9, hjx9⟩ := hO.ix
  have ix9_0 : ix9 pb = 0 := hjx9 0 _ _ rfl
  have ix9_1 : ix9 sb = 1 := hjx9 1 _ _ rfl
  have ix9_2 : ix9 B4_3 = 2 := hjx9 2 _ _ rfl
  have ix9_3 : ix9 B4_2 = 3 := hjx9 3 _ _ rfl
  have ix9_4 : ix9 B4_1 = 4 := hjx9 4 _ _ rfl
  have ix9_5 : ix9 B4 = 5 := hjx9 5 _ _ rfl
  have ix9_6 : ix9 B1_3 = 6 := hjx9 6 _ _ rfl
  have ix9_7 : ix9 B1_2 = 7 := hjx9 7 _ _ rfl
  have ix9_8 : ix9 B1_1 = 8 := hjx9 8 _ _ rfl
  have ix9_9 : ix9 B1 = 9 := hjx9 9 _ _ rfl
  have ix9_10 : ix9 mp = 10 := hjx9 10 _ _ rfl
  have ix9_11 : ix9 ms = 11 := hjx9 11 _ _ rfl
  have ix9_12 : ix9 cr = 12 := hjx9 12 _ _ rfl
  clear hjx9
  have c9_0_32 : u6.cell? ⟨pb, 32, none⟩ = some (.bool false) := hO.cell 0 rfl 32 (hk32)
  have c9_0_66 : u6.cell? ⟨pb, 66, none⟩ = some (.int .u32 0) := hO.cell 0 rfl 66 (hk66)
  have c9_0_95 : u6.cell? ⟨pb, 95, none⟩ = some (.bool true) := hO.cell 0 rfl 95 (hk95)
  have c9_0_96 : u6.cell? ⟨pb, 96, none⟩ = some (.bool false) := hO.cell 0 rfl 96 (hk96)
  have c9_0_97 : u6.cell? ⟨pb, 97, none⟩ = some (.pointer (some ⟨cr, 0, none⟩)) := hO.cell 0 rfl 97 (hk97)
  have c9_0_105 : u6.cell? ⟨pb, 105, none⟩ = some (.pointer none) := hO.cell 0 rfl 105 (hk105)
  have c9_0_106 : u6.cell? ⟨pb, 106, none⟩ = some (.slice (some ⟨sb, 0, none⟩) 1 (1 + c)) := hO.cell 0 rfl 106 (hk106)
  have c9_0_117 : u6.cell? ⟨pb, 117, none⟩ = some (.map (some mp)) := hO.cell 0 rfl 117 (hk117)
  have c9_0_187 : u6.cell? ⟨pb, 187, none⟩ = some (.pointer (some ⟨ms, 0, none⟩)) := hO.cell 0 rfl 187 (hk187)
  have c9_0_350 : u6.cell? ⟨pb, 350, none⟩ = some (.bool false) := hO.cell 0 rfl 350 (hk350)
  have lt9_0 : pb < u6.heap.size := hO.lt 0 rfl
  have y9_0 : ∀ o, u6.frozen? ⟨pb, o, none⟩ = false := hO.free 0 rfl
  obtain ⟨c9_2_0, c9_2_1, lt9_2, y9_2, pl9_2⟩ := hO.k2 2 rfl
  obtain ⟨lt9_3, y9_3, -⟩ := hO.k0 3 rfl
  obtain ⟨c9_4_0, c9_4_1, lt9_4, y9_4, pl9_4⟩ := hO.k2 4 rfl
  obtain ⟨c9_5_0, c9_5_1, c9_5_2, c9_5_3, c9_5_4, lt9_5, y9_5, -⟩ := hO.k5 5 rfl
  obtain ⟨c9_6_0, c9_6_1, lt9_6, y9_6, pl9_6⟩ := hO.k2 6 rfl
  obtain ⟨c9_7_0, c9_7_1, lt9_7, y9_7, pl9_7⟩ := hO.k2 7 rfl
  obtain ⟨c9_8_0, c9_8_1, lt9_8, y9_8, pl9_8⟩ := hO.k2 8 rfl
  obtain ⟨c9_9_0, lt9_9, y9_9, pl9_9⟩ := hO.k1 9 rfl
  have c9_11_5 : u6.cell? ⟨ms, 5, none⟩ = some (.slice none 0 0) := hO.cell 11 rfl 5 (hgen)
  have lt9_11 : ms < u6.heap.size := hO.lt 11 rfl
  have y9_11 : ∀ o, u6.frozen? ⟨ms, o, none⟩ = false := hO.free 11 rfl
  obtain ⟨c9_12_0, c9_12_1, lt9_12, y9_12, pl9_12⟩ := hO.k2 12 rfl
  have HO := Lib.hid hO
  clear hO
  go_wp2_with (first | (with_reducible refine Own.stay (fn := Tryd.f52) ?_) | fail)
  try with_reducible refine Own.Stay.mk ?_
  have hO := HO.out
  clear HO hix9 hax9 ix9_0 ix9_1 ix9_2 ix9_3 ix9_4 ix9_5 ix9_6 ix9_7 ix9_8 ix9_9 ix9_10 ix9_11 ix9_12 ix9 c9_0_32 c9_0_66 c9_0_95 c9_0_96 c9_0_97 c9_0_105 c9_0_106 c9_0_117 c9_0_187 c9_0_350 lt9_0 y9_0 c9_2_0 c9_2_1 lt9_2 y9_2 pl9_2 lt9_3 y9_3 c9_4_0 c9_4_1 lt9_4 y9_4 pl9_4 c9_5_0 c9_5_1 c9_5_2 c9_5_3 c9_5_4 lt9_5 y9_5 c9_6_0 c9_6_1 lt9_6 y9_6 pl9_6 c9_7_0 c9_7_1 lt9_7 y9_7 pl9_7 c9_8_0 c9_8_1 lt9_8 y9_8 pl9_8 c9_9_0 lt9_9 y9_9 pl9_9 c9_11_5 lt9_11 y9_11 c9_12_0 c9_12_1 lt9_12 y9_12 pl9_12
  generalize hW : World.alloc _ _ = W8
  have hN : Own w0 W8 [row (u6.heap.size + 1 + 1) 35 #[.iface 225 (.pointer (some ⟨u6.heap.size + 1, 0, none⟩)), .int .i32 loc, .iface 209 (.pointer (some ⟨u6.heap.size, 0, none⟩)), .int .i32 loc, .iface kT (.pointer (some ⟨kx, 0, none⟩)), .int .i32 kl], row (u6.heap.size + 1) 228 #[.iface 209 (.pointer (some ⟨B4, 0, none⟩)), .int .i32 loc, .string ⟨#[112, 114, 111, 116, 111, 116, 121, 112, 101]⟩, .int .i32 loc, .int .u8 0, .bool false, .bool false, .bool false], row (u6.heap.size) 211 #[.int .u32 0, .int .u32 0, .bool false, .bool false, .bool false], row (pb) 193 PC, row (sb) 56 (full symZ (symL (bump (bump [sy ⟨#[70, 111, 111]⟩ 0] 0) 0)) c), row (B4_3) 35 #[.iface 209 (.pointer (some ⟨u6.heap.size, 0, none⟩)), .int .i32 loc], row (B4_2) 241 #[], row (B4_1) 35 #[.iface 225 (.pointer (some ⟨u6.heap.size + 1, 0, none⟩)), .int .i32 loc], row (B4) 211 #[.int .u32 0, .int .u32 0, .bool false, .bool false, .bool false], row (B1_3) 25 #[.int .u32 0, .int .u32 0], row (B1_2) 35 #[.nilIface, .int .i32 0], row (B1_1) 35 #[.iface kT (.pointer (some ⟨kx, 0, none⟩)), .int .i32 kl], row (B1) 31 #[.int .i32 loc], ((mp, .map #[] 0) : Rw), row (ms) 203 MC, row (cr) 25 #[.int .u32 0, .int .u32 0]] X := by
    rw [← hW]
    exact (((((hO).set 2 rfl 0 _).set 4 rfl 0 _).alloc' _ (u6.heap.size) (by simp)).alloc' _ (u6.heap.size + 1) (by simp)).alloc' _ (u6.heap.size + 1 + 1) (by simp)
  clear hW hO
  generalize u6.heap.size + 1 + 1 = B7_2 at hN ⊢
  generalize u6.heap.size + 1 = B7_1 at hN ⊢
  generalize u6.heap.size = B7 at hN ⊢
  have hO := hN
  clear hN
  have hL := hO.apart
  have hX := hO.apartX
  have HL := Lib.hid hL
  have HX := Lib.hid hX
  clear hL hX
  have hP9 := hO.pick [3, 4, 13, 14] (by decide)
  have h9_hn : (bump (bump [sy ⟨#[70, 111, 111]⟩ 0] 0) 0).length = 1 := rfl
  have h9_hnb : 1 ≤ 2000000 := (by decide)
  have h9_hno : Instr.findNow .string (.string (⟨#[95, 95, 115, 117, 112, 101, 114, 71, 101, 116]⟩ : ByteArray)) (#[] : Array MapEntry).toList 0 = some none := (by kernel_rfl)
  have T9 := callF0 pb PC sb c (bump (bump [sy ⟨#[70, 111, 111]⟩ 0] 0) 0) 1 0 mp #[] 0 ms MC loc ⟨#[95, 95, 115, 117, 112, 101, 114, 71, 101, 116]⟩ B7_2 3 3 _ _ _ hP9 hk350 hk32 hk105 hk66 hk117 hk187 hk106 h9_hn h9_hnb hgen h9_hno hg0 hg1
  refine Calls.mono T9 ?_
  clear hP9 T9 h9_hn h9_hnb h9_hno
  rintro e u9 ⟨nd10, nd11, nd12, nd13, nd14, nd15, rfl, hQ⟩
  have hN : Own w0 u9 [row (pb) 193 (PC.setIfInBounds 106 (.slice (some ⟨nd12, 0, none⟩) (1 + 1) (1 + 1 + nd13))), row (nd12) 56 (full symZ (symL (bump ((bump (bump [sy ⟨#[70, 111, 111]⟩ 0] 0) 0) ++ [syk ⟨#[95, 95, 115, 117, 112, 101, 114, 71, 101, 116]⟩ 27]) 1)) nd13), ((mp, .map (#[].push ⟨.string ⟨#[95, 95, 115, 117, 112, 101, 114, 71, 101, 116]⟩, .agg #[.int .i32 loc, .int .u32 0, .int .u32 1], 0⟩) (0 + 1)) : Rw), row (ms) 203 (MC.setIfInBounds 5 (.slice (some ⟨nd14, 0, none⟩) 1 (1 + nd15))), row (nd14) 25 (full refZ [.int .u32 0, .int .u32 1] nd15), row (nd11) 211 #[.int .u32 0, .int .u32 1, .bool false, .bool false, .bool false], row (nd10) 71 #[.iface 209 (.pointer (some ⟨nd11, 0, none⟩)), .int .i32 loc, .slice (some ⟨B7_2, 0, none⟩) 3 3, .int .i32 0, .int .u8 0, .int .u8 0, .bool false, .bool false], row (B7_2) 35 #[.iface 225 (.pointer (some ⟨B7_1, 0, none⟩)), .int .i32 loc, .iface 209 (.pointer (some ⟨B7, 0, none⟩)), .int .i32 loc, .iface kT (.pointer (some ⟨kx, 0, none⟩)), .int .i32 kl], row (B7_1) 228 #[.iface 209 (.pointer (some ⟨B4, 0, none⟩)), .int .i32 loc, .string ⟨#[112, 114, 111, 116, 111, 116, 121, 112, 101]⟩, .int .i32 loc, .int .u8 0, .bool false, .bool false, .bool false], row (B7) 211 #[.int .u32 0, .int .u32 0, .bool false, .bool false, .bool false], row (B4_3) 35 #[.iface 209 (.pointer (some ⟨B7, 0, none⟩)), .int .i32 loc], row (B4_2) 241 #[], row (B4_1) 35 #[.iface 225 (.pointer (some ⟨B7_1, 0, none⟩)), .int .i32 loc], row (B4) 211 #[.int .u32 0, .int .u32 0, .bool false, .bool false, .bool false], row (B1_3) 25 #[.int .u32 0, .int .u32 0], row (B1_2) 35 #[.nilIface, .int .i32 0], row (B1_1) 35 #[.iface kT (.pointer (some ⟨kx, 0, none⟩)), .int .i32 kl], row (B1) 31 #[.int .i32 loc], row (cr) 25 #[.int .u32 0, .int .u32 0]] X := hQ.back HL.out HX.out [0, 1, 2, 5, 6, 7, 8, 9, 10, 11, 12, 15] (by decide) (by decide)
  clear hQ HL HX hO
  have hO := hN
  clear hN
  obtain ⟨ix9, hix9, hax9, hjx9⟩ := hO.ix
  have ix9_0 : ix9 pb = 0 := hjx9 0 _ _ rfl
  have ix9_1 : ix9 nd12 = 1 := hjx9 1 _ _ rfl
  have ix9_2 : ix9 mp = 2 := hjx9 2 _ _ rfl
  have ix9_3 : ix9 ms = 3 := hjx9 3 _ _ rfl
  have ix9_4 : ix9 nd14 = 4 := hjx9 4 _ _ rfl
  have ix9_5 : ix9 nd11 = 5 := hjx9 5 _ _ rfl
  have ix9_6 : ix9 nd10 = 6 := hjx9 6 _ _ rfl
  have ix9_7 : ix9 B7_2 = 7 := hjx9 7 _ _ rfl
  have ix9_8 : ix9 B7_1 = 8 := hjx9 8 _ _ rfl
  have ix9_9 : ix9 B7 = 9 := hjx9 9 _ _ rfl
  have ix9_10 : ix9 B4_3 = 10 := hjx9 10 _ _ rfl
  have ix9_11 : ix9 B4_2 = 11 := hjx9 11 _ _ rfl
  have ix9_12 : ix9 B4_1 = 12 := hjx9 12 _ _ rfl
  have ix9_13 : ix9 B4 = 13 := hjx9 13 _ _ rfl
  have ix9_14 : ix9 B1_3 = 14 := hjx9 14 _ _ rfl
  have ix9_15 : ix9 B1_2 = 15 := hjx9 15 _ _ rfl
  have ix9_16 : ix9 B1_1 = 16 := hjx9 16 _ _ rfl
  have ix9_17 : ix9 B1 = 17 := hjx9 17 _ _ rfl
  have ix9_18 : ix9 cr = 18 := hjx9 18 _ _ rfl
  clear hjx9
  have c9_0_32 : u9.cell? ⟨pb, 32, none⟩ = some (.bool false) := hO.cell 0 rfl 32 ((get_other hk32 (by omega) _))
  have c9_0_66 : u9.cell? ⟨pb, 66, none⟩ = some (.int .u32 0) := hO.cell 0 rfl 66 ((get_other hk66 (by omega) _))
  have c9_0_95 : u9.cell? ⟨pb, 95, none⟩ = some (.bool true) := hO.cell 0 rfl 95 ((get_other hk95 (by omega) _))
  have c9_0_96 : u9.cell? ⟨pb, 96, none⟩ = some (.bool false) := hO.cell 0 rfl 96 ((get_other hk96 (by omega) _))
  have c9_0_97 : u9.cell? ⟨pb, 97, none⟩ = some (.pointer (some ⟨cr, 0, none⟩)) := hO.cell 0 rfl 97 ((get_other hk97 (by omega) _))
  have c9_0_105 : u9.cell? ⟨pb, 105, none⟩ = some (.pointer none) := hO.cell 0 rfl 105 ((get_other hk105 (by omega) _))
  have c9_0_106 : u9.cell? ⟨pb, 106, none⟩ = some (.slice (some ⟨nd12, 0, none⟩) (1 + 1) (1 + 1 + nd13)) := hO.cell 0 rfl 106 ((get_set hk106 _))
  have c9_0_117 : u9.cell? ⟨pb, 117, none⟩ = some (.map (some mp)) := hO.cell 0 rfl 117 ((get_other hk117 (by omega) _))
  have c9_0_187 : u9.cell? ⟨pb, 187, none⟩ = some (.pointer (some ⟨ms, 0, none⟩)) := hO.cell 0 rfl 187 ((get_other hk187 (by omega) _))
  have c9_0_350 : u9.cell? ⟨pb, 350, none⟩ = some (.bool false) := hO.cell 0 rfl 350 ((get_other hk350 (by omega) _))
  have lt9_0 : pb < u9.heap.size := hO.lt 0 rfl
  have y9_0 : ∀ o, u9.frozen? ⟨pb, o, none⟩ = false := hO.free 0 rfl
  have c9_3_5 : u9.cell? ⟨ms, 5, none⟩ = some (.slice (some ⟨nd14, 0, none⟩) 1 (1 + nd15)) := hO.cell 3 rfl 5 ((get_set hgen _))
  have lt9_3 : ms < u9.heap.size := hO.lt 3 rfl
  have y9_3 : ∀ o, u9.frozen? ⟨ms, o, none⟩ = false := hO.free 3 rfl
  have pl9_4 : Base.plainAt u9 (nd14) = true := hO.plain 4 rfl
  have c9_4_0 : u9.cell? ⟨nd14, 0, none⟩ = some (.int .u32 0) := hO.cell 4 rfl 0 ((full_at rfl))
  have c9_4_1 : u9.cell? ⟨nd14, 1, none⟩ = some (.int .u32 1) := hO.cell 4 rfl 1 ((full_at rfl))
  have lt9_4 : nd14 < u9.heap.size := hO.lt 4 rfl
  have y9_4 : ∀ o, u9.frozen? ⟨nd14, o, none⟩ = false := hO.free 4 rfl
  obtain ⟨c9_5_0, c9_5_1, c9_5_2, c9_5_3, c9_5_4, lt9_5, y9_5, pl9_5⟩ := hO.k5 5 rfl
  obtain ⟨c9_6_0, c9_6_1, c9_6_2, c9_6_3, c9_6_4, c9_6_5, c9_6_6, c9_6_7, lt9_6, y9_6, -⟩ := hO.k8 6 rfl
  obtain ⟨c9_7_0, c9_7_1, c9_7_2, c9_7_3, c9_7_4, c9_7_5, lt9_7, y9_7, pl9_7⟩ := hO.k6 7 rfl
  obtain ⟨c9_8_0, c9_8_1, c9_8_2, c9_8_3, c9_8_4, c9_8_5, c9_8_6, c9_8_7, lt9_8, y9_8, -⟩ := hO.k8 8 rfl
  obtain ⟨c9_9_0, c9_9_1, c9_9_2, c9_9_3, c9_9_4, lt9_9, y9_9, pl9_9⟩ := hO.k5 9 rfl
  obtain ⟨c9_10_0, c9_10_1, lt9_10, y9_10, pl9_10⟩ := hO.k2 10 rfl
  obtain ⟨lt9_11, y9_11, -⟩ := hO.k0 11 rfl
  obtain ⟨c9_12_0, c9_12_1, lt9_12, y9_12, pl9_12⟩ := hO.k2 12 rfl
  obtain ⟨c9_13_0, c9_13_1, c9_13_2, c9_13_3, c9_13_4, lt9_13, y9_13, pl9_13⟩ := hO.k5 13 rfl
  obtain ⟨c9_14_0, c9_14_1, lt9_14, y9_14, pl9_14⟩ := hO.k2 14 rfl
  obtain ⟨c9_15_0, c9_15_1, lt9_15, y9_15, pl9_15⟩ := hO.k2 15 rfl
  obtain ⟨c9_16_0, c9_16_1, lt9_16, y9_16, pl9_16⟩ := hO.k2 16 rfl
  obtain ⟨c9_17_0, lt9_17, y9_17, pl9_17⟩ := hO.k1 17 rfl
  obtain ⟨c9_18_0, c9_18_1, lt9_18, y9_18, pl9_18⟩ := hO.k2 18 rfl
  have HO := Lib.hid hO
  clear hO
  go_wp2_with (first | (with_reducible refine Own.stay (fn := Tryd.f52) ?_) | fail)
  try with_reducible refine Own.Stay.mk ?_
  have hO := HO.out
  clear HO hix9 hax9 ix9_0 ix9_1 ix9_2 ix9_3 ix9_4 ix9_5 ix9_6 ix9_7 ix9_8 ix9_9 ix9_10 ix9_11 ix9_12 ix9_13 ix9_14 ix9_15 ix9_16 ix9_17 ix9_18 ix9 c9_0_32 c9_0_66 c9_0_95 c9_0_96 c9_0_97 c9_0_105 c9_0_106 c9_0_117 c9_0_187 c9_0_350 lt9_0 y9_0 c9_3_5 lt9_3 y9_3 pl9_4 c9_4_0 c9_4_1 lt9_4 y9_4 c9_5_0 c9_5_1 c9_5_2 c9_5_3 c9_5_4 lt9_5 y9_5 pl9_5 c9_6_0 c9_6_1 c9_6_2 c9_6_3 c9_6_4 c9_6_5 c9_6_6 c9_6_7 lt9_6 y9_6 c9_7_0 c9_7_1 c9_7_2 c9_7_3 c9_7_4 c9_7_5 lt9_7 y9_7 pl9_7 c9_8_0 c9_8_1 c9_8_2 c9_8_3 c9_8_4 c9_8_5 c9_8_6 c9_8_7 lt9_8 y9_8 c9_9_0 c9_9_1 c9_9_2 c9_9_3 c9_9_4 lt9_9 y9_9 pl9_9 c9_10_0 c9_10_1 lt9_10 y9_10 pl9_10 lt9_11 y9_11 c9_12_0 c9_12_1 lt9_12 y9_12 pl9_12 c9_13_0 c9_13_1 c9_13_2 c9_13_3 c9_13_4 lt9_13 y9_13 pl9_13 c9_14_0 c9_14_1 lt9_14 y9_14 pl9_14 c9_15_0 c9_15_1 lt9_15 y9_15 pl9_15 c9_16_0 c9_16_1 lt9_16 y9_16 pl9_16 c9_17_0 lt9_17 y9_17 pl9_17 c9_18_0 c9_18_1 lt9_18 y9_18 pl9_18
  generalize hW : World.setCell _ _ _ = W17
  have hN : Own w0 W17 [row (pb) 193 (PC.setIfInBounds 106 (.slice (some ⟨nd12, 0, none⟩) (1 + 1) (1 + 1 + nd13))), row (nd12) 56 (full symZ (symL (bump ((bump (bump [sy ⟨#[70, 111, 111]⟩ 0] 0) 0) ++ [syk ⟨#[95, 95, 115, 117, 112, 101, 114, 71, 101, 116]⟩ 27]) 1)) nd13), ((mp, .map (#[].push ⟨.string ⟨#[95, 95, 115, 117, 112, 101, 114, 71, 101, 116]⟩, .agg #[.int .i32 loc, .int .u32 0, .int .u32 1], 0⟩) (0 + 1)) : Rw), row (ms) 203 (MC.setIfInBounds 5 (.slice (some ⟨nd14, 0, none⟩) 1 (1 + nd15))), row (nd14) 25 (full refZ [.int .u32 0, .int .u32 1] nd15), row (nd11) 211 #[.int .u32 0, .int .u32 1, .bool false, .bool false, .bool false], row (nd10) 71 #[.iface 209 (.pointer (some ⟨nd11, 0, none⟩)), .int .i32 loc, .slice (some ⟨B7_2, 0, none⟩) 3 3, .int .i32 0, .int .u8 0, .int .u8 0, .bool false, .bool false], row (B7_2) 35 #[.iface 225 (.pointer (some ⟨B7_1, 0, none⟩)), .int .i32 loc, .iface 209 (.pointer (some ⟨B7, 0, none⟩)), .int .i32 loc, .iface kT (.pointer (some ⟨kx, 0, none⟩)), .int .i32 kl], row (B7_1) 228 #[.iface 209 (.pointer (some ⟨B4, 0, none⟩)), .int .i32 loc, .string ⟨#[112, 114, 111, 116, 111, 116, 121, 112, 101]⟩, .int .i32 loc, .int .u8 0, .bool false, .bool false, .bool false], row (B7) 211 #[.int .u32 0, .int .u32 0, .bool false, .bool false, .bool false], row (B4_3) 35 #[.iface 209 (.pointer (some ⟨B7, 0, none⟩)), .int .i32 loc], row (B4_2) 241 #[], row (B4_1) 35 #[.iface 225 (.pointer (some ⟨B7_1, 0, none⟩)), .int .i32 loc], row (B4) 211 #[.int .u32 0, .int .u32 0, .bool false, .bool false, .bool false], row (B1_3) 25 #[.int .u32 0, .int .u32 0], row (B1_2) 35 #[.iface 65 (.pointer (some ⟨nd10, 0, none⟩)), .int .i32 loc], row (B1_1) 35 #[.iface kT (.pointer (some ⟨kx, 0, none⟩)), .int .i32 kl], row (B1) 31 #[.int .i32 loc], row (cr) 25 #[.int .u32 0, .int .u32 0]] X := by
    rw [← hW]
    exact ((hO).set 15 rfl 0 _).set 15 rfl 1 _
  clear hW hO
  have hO := hN
  clear hN
  have z9_15_0 : W17.cell? ⟨B1_2, 0, none⟩ = some (.iface 65 (.pointer (some ⟨nd10, 0, none⟩))) := hO.cell 15 rfl 0 rfl
  have z9_15_1 : W17.cell? ⟨B1_2, 1, none⟩ = some (.int .i32 loc) := hO.cell 15 rfl 1 rfl
  refine bodyPost_ret (v := .agg #[.iface 65 (.pointer (some ⟨nd10, 0, none⟩)), .int .i32 loc]) ?_ rfl ⟨nd10, nd11, B7_2, B4, B7, B7_1, nd12, nd13, nd14, nd15, rfl, hO.sub [0, 1, 2, 3, 4, 18, 5, 6, 7, 13, 9, 8] (by decide)⟩
  simp [results, Tryd.results52, go_sem, z9_15_0, z9_15_1]
def supGetrsF0i0Post (pb : Nat) (PC : Array Value) (sb c mp ms : Nat) (MC : Array Value) (cr : Nat) (loc : Int) (kT kx : Nat) (kl : Int) (w0 : World) (X : Nat → Obj → Prop) (e : Ending) (w' : World) : Prop :=
  ∃ ca : Nat, ∃ b : Nat, ∃ sx : Nat, ∃ i1 : Nat, ∃ i2 : Nat, ∃ sb2 : Nat, ∃ c2 : Nat, ∃ gb2 : Nat, ∃ cg2 : Nat, ∃ xb : Nat, e = .returned (.agg #[.iface 65 (.pointer (some ⟨ca, 0, none⟩)), .int .i32 loc]) ∧ Own w0 w' [row (pb) 193 (PC.setIfInBounds 106 (.slice (some ⟨sb2, 0, none⟩) 2 (2 + c2))), row (sb2) 56 (full symZ (symL ([sy ⟨#[70, 111, 111]⟩ 2, sy ⟨#[95, 95, 115, 117, 112, 101, 114, 71, 101, 116]⟩ 1])) c2), ((mp, .map #[⟨.string ⟨#[95, 95, 115, 117, 112, 101, 114, 71, 101, 116]⟩, .agg #[.int .i32 loc, .int .u32 0, .int .u32 1], 0⟩] 1) : Rw), row (ms) 203 (MC.setIfInBounds 5 (.slice (some ⟨gb2, 0, none⟩) 1 (1 + cg2))), row (gb2) 25 (full refZ ([.int .u32 0, .int .u32 1]) cg2), row (cr) 25 #[.int .u32 0, .int .u32 0], row (b) 211 #[.int .u32 0, .int .u32 1, .bool false, .bool false, .bool false], row (ca) 71 #[.iface 209 (.pointer (some ⟨b, 0, none⟩)), .int .i32 loc, .slice (some ⟨sx, 0, none⟩) 3 3, .int .i32 0, .int .u8 0, .int .u8 0, .bool false, .bool false], row (sx) 35 #[.iface 209 (.pointer (some ⟨i1, 0, none⟩)), .int .i32 loc, .iface 209 (.pointer (some ⟨i2, 0, none⟩)), .int .i32 loc, .iface kT (.pointer (some ⟨kx, 0, none⟩)), .int .i32 kl], row (i1) 211 #[.int .u32 0, .int .u32 0, .bool false, .bool false, .bool false], row (i2) 211 #[.int .u32 0, .int .u32 0, .bool false, .bool false, .bool false], row (xb) 35 #[.iface 209 (.pointer (some ⟨i1, 0, none⟩)), .int .i32 loc]] X
set_option maxRecDepth 100000 in
set_option maxHeartbeats 1000000 in
theorem supGetrsF0i0 (pb : Nat) (PC : Array Value) (sb c mp ms : Nat) (MC : Array Value) (cr : Nat) (loc : Int) (kT kx : Nat) (kl : Int) (w0 w : World) (X : Nat → Obj → Prop) (hO : Own w0 w [row (pb) 193 PC, row (sb) 56 (full symZ (symL ([sy ⟨#[70, 111, 111]⟩ 0])) c), ((mp, .map #[] 0) : Rw), row (ms) 203 MC, row (cr) 25 #[.int .u32 0, .int .u32 0]] X) (hk350 : PC[350]? = some (.bool false)) (hk32 : PC[32]? = some (.bool false)) (hk105 : PC[105]? = some (.pointer none)) (hk66 : PC[66]? = some (.int .u32 0)) (hk117 : PC[117]? = some (.map (some mp))) (hk187 : PC[187]? = some (.pointer (some ⟨ms, 0, none⟩))) (hk97 : PC[97]? = some (.pointer (some ⟨cr, 0, none⟩))) (hk95 : PC[95]? = some (.bool true)) (hk96 : PC[96]? = some (.bool true)) (hk106 : PC[106]? = some (.slice (some ⟨sb, 0, none⟩) 1 (1 + c))) (hgen : MC[5]? = some (.slice none 0 0)) (hg0 : w0.cell? ⟨0, 0, none⟩ = some (.int .u32 4294967295)) (hg1 : w0.cell? ⟨0, 1, none⟩ = some (.int .u32 4294967295)) :
    Calls Tryd.prog 52 #[.pointer (some ⟨pb, 0, none⟩), .agg #[.int .i32 loc], .agg #[.iface kT (.pointer (some ⟨kx, 0, none⟩)), .int .i32 kl]] w (supGetrsF0i0Post pb PC sb c mp ms MC cr loc kT kx kl w0 X) := by
  go_enter Tryd.func52, Tryd.ntmps52
  obtain ⟨ix9, hix9, hax9, hjx9⟩ := hO.ix
  have ix9_0 : ix9 pb = 0 := hjx9 0 _ _ rfl
  have ix9_1 : ix9 sb = 1 := hjx9 1 _ _ rfl
  have ix9_2 : ix9 mp = 2 := hjx9 2 _ _ rfl
  have ix9_3 : ix9 ms = 3 := hjx9 3 _ _ rfl
  have ix9_4 : ix9 cr = 4 := hjx9 4 _ _ rfl
  clear hjx9
  have c9_0_32 : w.cell? ⟨pb, 32, none⟩ = some (.bool false) := hO.cell 0 rfl 32 (hk32)
  have c9_0_66 : w.cell? ⟨pb, 66, none⟩ = some (.int .u32 0) := hO.cell 0 rfl 66 (hk66)
  have c9_0_95 : w.cell? ⟨pb, 95, none⟩ = some (.bool true) := hO.cell 0 rfl 95 (hk95)
  have c9_0_96 : w.cell? ⟨pb, 96, none⟩ = some (.bool true) := hO.cell 0 rfl 96 (hk96)
  have c9_0_97 : w.cell? ⟨pb, 97, none⟩ = some (.pointer (some ⟨cr, 0, none⟩)) := hO.cell 0 rfl 97 (hk97)
  have c9_0_105 : w.cell? ⟨pb, 105, none⟩ = some (.pointer none) := hO.cell 0 rfl 105 (hk105)
  have c9_0_106 : w.cell? ⟨pb, 106, none⟩ = some (.slice (some ⟨sb, 0, none⟩) 1 (1 + c)) := hO.cell 0 rfl 106 (hk106)
  have c9_0_117 : w.cell? ⟨pb, 117, none⟩ = some (.map (some mp)) := hO.cell 0 rfl 117 (hk117)
  have c9_0_187 : w.cell? ⟨pb, 187, none⟩ = some (.pointer (some ⟨ms, 0, none⟩)) := hO.cell 0 rfl 187 (hk187)
  have c9_0_350 : w.cell? ⟨pb, 350, none⟩ = some (.bool false) := hO.cell 0 rfl 350 (hk350)
  have lt9_0 : pb < w.heap.size := hO.lt 0 rfl
  have y9_0 : ∀ o, w.frozen? ⟨pb, o, none⟩ = false := hO.free 0 rfl
  have c9_3_5 : w.cell? ⟨ms, 5, none⟩ = some (.slice none 0 0) := hO.cell 3 rfl 5 (hgen)
  have lt9_3 : ms < w.heap.size := hO.lt 3 rfl
  have y9_3 : ∀ o, w.frozen? ⟨ms, o, none⟩ = false := hO.free 3 rfl
  obtain ⟨c9_4_0, c9_4_1, lt9_4, y9_4, -⟩ := hO.k2 4 rfl
  have HO := Lib.hid hO
  clear hO
  go_wp2_with (first | (with_reducible refine Own.stay (fn := Tryd.f52) ?_) | fail)
  try with_reducible refine Own.Stay.mk ?_
  have hO := HO.out
  clear HO hix9 hax9 ix9_0 ix9_1 ix9_2 ix9_3 ix9_4 ix9 c9_0_32 c9_0_66 c9_0_95 c9_0_96 c9_0_97 c9_0_105 c9_0_106 c9_0_117 c9_0_187 c9_0_350 lt9_0 y9_0 c9_3_5 lt9_3 y9_3 c9_4_0 c9_4_1 lt9_4 y9_4
  generalize hW : World.alloc _ _ = W2
  have hN : Own w0 W2 [row (w.heap.size + 1 + 1 + 1) 25 #[.int .u32 0, .int .u32 0], row (w.heap.size + 1 + 1) 35 #[.nilIface, .int .i32 0], row (w.heap.size + 1) 35 #[.iface kT (.pointer (some ⟨kx, 0, none⟩)), .int .i32 kl], row (w.heap.size) 31 #[.int .i32 loc], row (pb) 193 PC, row (sb) 56 (full symZ (symL ([sy ⟨#[70, 111, 111]⟩ 0])) c), ((mp, .map #[] 0) : Rw), row (ms) 203 MC, row (cr) 25 #[.int .u32 0, .int .u32 0]] X := by
    rw [← hW]
    exact ((((hO).alloc' _ (w.heap.size) (by simp)).alloc' _ (w.heap.size + 1) (by simp)).alloc' _ (w.heap.size + 1 + 1) (by simp)).alloc' _ (w.heap.size + 1 + 1 + 1) (by simp)
  clear hW hO
  generalize w.heap.size + 1 + 1 + 1 = B1_3 at hN ⊢
  generalize w.heap.size + 1 + 1 = B1_2 at hN ⊢
  generalize w.heap.size + 1 = B1_1 at hN ⊢
  generalize w.heap.size = B1 at hN ⊢
  have hO := hN
  clear hN
  have hL := hO.apart
  have hX := hO.apartX
  have HL := Lib.hid hL
  have HX := Lib.hid hX
  clear hL hX
  have hP9 := hO.pick [4, 5] (by decide)
  have h9_hn : ([sy ⟨#[70, 111, 111]⟩ 0]).length = 1 := rfl
  have h9_hnb : 1 ≤ 4000000 := (by decide)
  have h9_hu : ∃ s, ([sy ⟨#[70, 111, 111]⟩ 0])[0]? = some s ∧ s.uc < 4294967295 := ⟨_, rfl, by decide⟩
  have T9 := useG pb PC sb c ([sy ⟨#[70, 111, 111]⟩ 0]) 1 0 0 _ _ _ hP9 hk350 hk32 hk105 hk106 h9_hn h9_hnb h9_hu
  refine Calls.mono T9 ?_
  clear hP9 T9 h9_hn h9_hnb h9_hu
  rintro e u3 ⟨rfl, hQ⟩
  have hN : Own w0 u3 [row (pb) 193 PC, row (sb) 56 (full symZ (symL (bump ([sy ⟨#[70, 111, 111]⟩ 0]) 0)) c), row (B1_3) 25 #[.int .u32 0, .int .u32 0], row (B1_2) 35 #[.nilIface, .int .i32 0], row (B1_1) 35 #[.iface kT (.pointer (some ⟨kx, 0, none⟩)), .int .i32 kl], row (B1) 31 #[.int .i32 loc], ((mp, .map #[] 0) : Rw), row (ms) 203 MC, row (cr) 25 #[.int .u32 0, .int .u32 0]] X := hQ.back HL.out HX.out [0, 1, 2, 3, 6, 7, 8] (by decide) (by decide)
  clear hQ HL HX hO
  have hO := hN
  clear hN
  obtain ⟨ix9, hix9, hax9, hjx9⟩ := hO.ix
  have ix9_0 : ix9 pb = 0 := hjx9 0 _ _ rfl
  have ix9_1 : ix9 sb = 1 := hjx9 1 _ _ rfl
  have ix9_2 : ix9 B1_3 = 2 := hjx9 2 _ _ rfl
  have ix9_3 : ix9 B1_2 = 3 := hjx9 3 _ _ rfl
  have ix9_4 : ix9 B1_1 = 4 := hjx9 4 _ _ rfl
  have ix9_5 : ix9 B1 = 5 := hjx9 5 _ _ rfl
  have ix9_6 : ix9 mp = 6 := hjx9 6 _ _ rfl
  have ix9_7 : ix9 ms = 7 := hjx9 7 _ _ rfl
  have ix9_8 : ix9 cr = 8 := hjx9 8 _ _ rfl
  clear hjx9
  have c9_0_32 : u3.cell? ⟨pb, 32, none⟩ = some (.bool false) := hO.cell 0 rfl 32 (hk32)
  have c9_0_66 : u3.cell? ⟨pb, 66, none⟩ = some (.int .u32 0) := hO.cell 0 rfl 66 (hk66)
  have c9_0_95 : u3.cell? ⟨pb, 95, none⟩ = some (.bool true) := hO.cell 0 rfl 95 (hk95)
  have c9_0_96 : u3.cell? ⟨pb, 96, none⟩ = some (.bool true) := hO.cell 0 rfl 96 (hk96)
  have c9_0_97 : u3.cell? ⟨pb, 97, none⟩ = some (.pointer (some ⟨cr, 0, none⟩)) := hO.cell 0 rfl 97 (hk97)
  have c9_0_105 : u3.cell? ⟨pb, 105, none⟩ = some (.pointer none) := hO.cell 0 rfl 105 (hk105)
  have c9_0_106 : u3.cell? ⟨pb, 106, none⟩ = some (.slice (some ⟨sb, 0, none⟩) 1 (1 + c)) := hO.cell 0 rfl 106 (hk106)
  have c9_0_117 : u3.cell? ⟨pb, 117, none⟩ = some (.map (some mp)) := hO.cell 0 rfl 117 (hk117)
  have c9_0_187 : u3.cell? ⟨pb, 187, none⟩ = some (.pointer (some ⟨ms, 0, none⟩)) := hO.cell 0 rfl 187 (hk187)
  have c9_0_350 : u3.cell? ⟨pb, 350, none⟩ = some (.bool false) := hO.cell 0 rfl 350 (hk350)
  have lt9_0 : pb < u3.heap.size := hO.lt 0 rfl
  have y9_0 : ∀ o, u3.frozen? ⟨pb, o, none⟩ = false := hO.free 0 rfl
  obtain ⟨c9_2_0, c9_2_1, lt9_2, y9_2, pl9_2⟩ := hO.k2 2 rfl
  obtain ⟨c9_3_0, c9_3_1, lt9_3, y9_3, pl9_3⟩ := hO.k2 3 rfl
  obtain ⟨c9_4_0, c9_4_1, lt9_4, y9_4, pl9_4⟩ := hO.k2 4 rfl
  obtain ⟨c9_5_0, lt9_5, y9_5, pl9_5⟩ := hO.k1 5 rfl
  have c9_7_5 : u3.cell? ⟨ms, 5, none⟩ = some (.slice none 0 0) := hO.cell 7 rfl 5 (hgen)
  have lt9_7 : ms < u3.heap.size := hO.lt 7 rfl
  have y9_7 : ∀ o, u3.frozen? ⟨ms, o, none⟩ = false := hO.free 7 rfl
  obtain ⟨c9_8_0, c9_8_1, lt9_8, y9_8, pl9_8⟩ := hO.k2 8 rfl
  have HO := Lib.hid hO
  clear hO
  go_wp2_with (first | (with_reducible refine Own.stay (fn := Tryd.f52) ?_) | fail)
  try with_reducible refine Own.Stay.mk ?_
  have hO := HO.out
  clear HO hix9 hax9 ix9_0 ix9_1 ix9_2 ix9_3 ix9_4 ix9_5 ix9_6 ix9_7 ix9_8 ix9 c9_0_32 c9_0_66 c9_0_95 c9_0_96 c9_0_97 c9_0_105 c9_0_106 c9_0_117 c9_0_187 c9_0_350 lt9_0 y9_0 c9_2_0 c9_2_1 lt9_2 y9_2 pl9_2 c9_3_0 c9_3_1 lt9_3 y9_3 pl9_3 c9_4_0 c9_4_1 lt9_4 y9_4 pl9_4 c9_5_0 lt9_5 y9_5 pl9_5 c9_7_5 lt9_7 y9_7 c9_8_0 c9_8_1 lt9_8 y9_8 pl9_8
  generalize hW : World.alloc _ _ = W5
  have hN : Own w0 W5 [row (u3.heap.size + 1 + 1 + 1) 35 #[.iface 237 (.pointer (some ⟨u3.heap.size + 1 + 1, 0, none⟩)), .int .i32 loc], row (u3.heap.size + 1 + 1) 241 #[], row (u3.heap.size + 1) 35 #[.iface 209 (.pointer (some ⟨u3.heap.size, 0, none⟩)), .int .i32 loc], row (u3.heap.size) 211 #[.int .u32 0, .int .u32 0, .bool false, .bool false, .bool false], row (pb) 193 PC, row (sb) 56 (full symZ (symL (bump ([sy ⟨#[70, 111, 111]⟩ 0]) 0)) c), row (B1_3) 25 #[.int .u32 0, .int .u32 0], row (B1_2) 35 #[.nilIface, .int .i32 0], row (B1_1) 35 #[.iface kT (.pointer (some ⟨kx, 0, none⟩)), .int .i32 kl], row (B1) 31 #[.int .i32 loc], ((mp, .map #[] 0) : Rw), row (ms) 203 MC, row (cr) 25 #[.int .u32 0, .int .u32 0]] X := by
    rw [← hW]
    exact ((((hO).alloc' _ (u3.heap.size) (by simp)).alloc' _ (u3.heap.size + 1) (by simp)).alloc' _ (u3.heap.size + 1 + 1) (by simp)).alloc' _ (u3.heap.size + 1 + 1 + 1) (by simp)
  clear hW hO
  generalize u3.heap.size + 1 + 1 + 1 = B4_3 at hN ⊢
  generalize u3.heap.size + 1 + 1 = B4_2 at hN ⊢
  generalize u3.heap.size + 1 = B4_1 at hN ⊢
  generalize u3.heap.size = B4 at hN ⊢
  have hO := hN
  clear hN
  have hL := hO.apart
  have hX := hO.apartX
  have HL := Lib.hid hL
  have HX := Lib.hid hX
  clear hL hX
  have hP9 := hO.pick [4, 5] (by decide)
  have h9_hn : (bump [sy ⟨#[70, 111, 111]⟩ 0] 0).length = 1 := rfl
  have h9_hnb : 1 ≤ 4000000 := (by decide)
  have h9_hu : ∃ s, (bump [sy ⟨#[70, 111, 111]⟩ 0] 0)[0]? = some s ∧ s.uc < 4294967295 := ⟨_, rfl, by decide⟩
  have T9 := useG pb PC sb c (bump [sy ⟨#[70, 111, 111]⟩ 0] 0) 1 0 0 _ _ _ hP9 hk350 hk32 hk105 hk106 h9_hn h9_hnb h9_hu
  refine Calls.mono T9 ?_
  clear hP9 T9 h9_hn h9_hnb h9_hu
  rintro e u6 ⟨rfl, hQ⟩
  have hN : Own w0 u6 [row (pb) 193 PC, row (sb) 56 (full symZ (symL (bump (bump [sy ⟨#[70, 111, 111]⟩ 0] 0) 0)) c), row (B4_3) 35 #[.iface 237 (.pointer (some ⟨B4_2, 0, none⟩)), .int .i32 loc], row (B4_2) 241 #[], row (B4_1) 35 #[.iface 209 (.pointer (some ⟨B4, 0, none⟩)), .int .i32 loc], row (B4) 211 #[.int .u32 0, .int .u32 0, .bool false, .bool false, .bool false], row (B1_3) 25 #[.int .u32 0, .int .u32 0], row (B1_2) 35 #[.nilIface, .int .i32 0], row (B1_1) 35 #[.iface kT (.pointer (some ⟨kx, 0, none⟩)), .int .i32 kl], row (B1) 31 #[.int .i32 loc], ((mp, .map #[] 0) : Rw), row (ms) 203 MC, row (cr) 25 #[.int .u32 0, .int .u32 0]] X := hQ.back HL.out HX.out [0, 1, 2, 3, 6, 7, 8, 9, 10, 11, 12] (by decide) (by decide)
  clear hQ HL HX hO
  have hO := hN
  clear hN
  obtain ⟨ix9, hix9, hax9, hjx9⟩ := hO.ix
  have ix9_0 : ix9 pb = 0 := hjx9 0 _ _ rfl
  have ix9_1 : ix9 sb = 1 := hjx9 1 _ _ rfl
  have ix9_2 : ix9 B4_3 = 2 := hjx9 2 _ _ rfl
  have ix9_3 : ix9 B4_2 = 3 := hjx9 3 _ _ rfl
  have ix9_4 : ix9 B4_1 = 4 := hjx9 4 _ _ rfl
  have ix9_5 : ix9 B4 = 5 := hjx9 5 _ _ rfl
  have ix9_6 : ix9 B1_3 = 6 := hjx9 6 _ _ rfl
  have ix9_7 : ix9 B1_2 = 7 := hjx9 7 _ _ rfl
  have ix9_8 : ix9 B1_1 = 8 := hjx9 8 _ _ rfl
  have ix9_9 : ix9 B1 = 9 := hjx9 9 _ _ rfl
  have ix9_10 : ix9 mp = 10 := hjx9 10 _ _ rfl
  have ix9_11 : ix9 ms = 11 := hjx9 11 _ _ rfl
  have ix9_12 : ix9 cr = 12 := hjx9 12 _ _ rfl
  clear hjx9
  have c9_0_32 : u6.cell? ⟨pb, 32, none⟩ = some (.bool false) := hO.cell 0 rfl 32 (hk32)
  have c9_0_66 : u6.cell? ⟨pb, 66, none⟩ = some (.int .u32 0) := hO.cell 0 rfl 66 (hk66)
  have c9_0_95 : u6.cell? ⟨pb, 95, none⟩ = some (.bool true) := hO.cell 0 rfl 95 (hk95)
  have c9_0_96 : u6.cell? ⟨pb, 96, none⟩ = some (.bool true) := hO.cell 0 rfl 96 (hk96)
  have c9_0_97 : u6.cell? ⟨pb, 97, none⟩ = some (.pointer (some ⟨cr, 0, none⟩)) := hO.cell 0 rfl 97 (hk97)
  have c9_0_105 : u6.cell? ⟨pb, 105, none⟩ = some (.pointer none) := hO.cell 0 rfl 105 (hk105)
  have c9_0_106 : u6.cell? ⟨pb, 106, none⟩ = some (.slice (some ⟨sb, 0, none⟩) 1 (1 + c)) := hO.cell 0 rfl 106 (hk106)
  have c9_0_117 : u6.cell? ⟨pb, 117, none⟩ = some (.map (some mp)) := hO.cell 0 rfl 117 (hk117)
  have c9_0_187 : u6.cell? ⟨pb, 187, none⟩ = some (.pointer (some ⟨ms, 0, none⟩)) := hO.cell 0 rfl 187 (hk187)
  have c9_0_350 : u6.cell? ⟨pb, 350, none⟩ = some (.bool false) := hO.cell 0 rfl 350 (hk350)
  have lt9_0 : pb < u6.heap.size := hO.lt 0 rfl
  have y9_0 : ∀ o, u6.frozen? ⟨pb, o, none⟩ = false := hO.free 0 rfl
  obtain ⟨c9_2_0, c9_2_1, lt9_2, y9_2, pl9_2⟩ := hO.k2 2 rfl
  obtain ⟨lt9_3, y9_3, -⟩ := hO.k0 3 rfl
  obtain ⟨c9_4_0, c9_4_1, lt9_4, y9_4, pl9_4⟩ := hO.k2 4 rfl
  obtain ⟨c9_5_0, c9_5_1, c9_5_2, c9_5_3, c9_5_4, lt9_5, y9_5, -⟩ := hO.k5 5 rfl
  obtain ⟨c9_6_0, c9_6_1, lt9_6, y9_6, pl9_6⟩ := hO.k2 6 rfl
  obtain ⟨c9_7_0, c9_7_1, lt9_7, y9_7, pl9_7⟩ := hO.k2 7 rfl
  obtain ⟨c9_8_0, c9_8_1, lt9_8, y9_8, pl9_8⟩ := hO.k2 8 rfl
  obtain ⟨c9_9_0, lt9_9, y9_9, pl9_9⟩ := hO.k1 9 rfl
  have c9_11_5 : u6.cell? ⟨ms, 5, none⟩ = some (.slice none 0 0) := hO.cell 11 rfl 5 (hgen)
  have lt9_11 : ms < u6.heap.size := hO.lt 11 rfl
  have y9_11 : ∀ o, u6.frozen? ⟨ms, o, none⟩ = false := hO.free 11 rfl
  obtain ⟨c9_12_0, c9_12_1, lt9_12, y9_12, pl9_12⟩ := hO.k2 12 rfl
  have HO := Lib.hid hO
  clear hO
  go_wp2_with (first | (with_reducible refine Own.stay (fn := Tryd.f52) ?_) | fail)
  try with_reducible refine Own.Stay.mk ?_
  have hO := HO.out
  clear HO hix9 hax9 ix9_0 ix9_1 ix9_2 ix9_3 ix9_4 ix9_5 ix9_6 ix9_7 ix9_8 ix9_9 ix9_10 ix9_11 ix9_12 ix9 c9_0_32 c9_0_66 c9_0_95 c9_0_96 c9_0_97 c9_0_105 c9_0_106 c9_0_117 c9_0_187 c9_0_350 lt9_0 y9_0 c9_2_0 c9_2_1 lt9_2 y9_2 pl9_2 lt9_3 y9_3 c9_4_0 c9_4_1 lt9_4 y9_4 pl9_4 c9_5_0 c9_5_1 c9_5_2 c9_5_3 c9_5_4 lt9_5 y9_5 c9_6_0 c9_6_1 lt9_6 y9_6 pl9_6 c9_7_0 c9_7_1 lt9_7 y9_7 pl9_7 c9_8_0 c9_8_1 lt9_8 y9_8 pl9_8 c9_9_0 lt9_9 y9_9 pl9_9 c9_11_5 lt9_11 y9_11 c9_12_0 c9_12_1 lt9_12 y9_12 pl9_12
  generalize hW : World.alloc _ _ = W8
  have hN : Own w0 W8 [row (u6.heap.size + 1) 35 #[.iface 209 (.pointer (some ⟨B4, 0, none⟩)), .int .i32 loc, .iface 209 (.pointer (some ⟨u6.heap.size, 0, none⟩)), .int .i32 loc, .iface kT (.pointer (some ⟨kx, 0, none⟩)), .int .i32 kl], row (u6.heap.size) 211 #[.int .u32 0, .int .u32 0, .bool false, .bool false, .bool false], row (pb) 193 PC, row (sb) 56 (full symZ (symL (bump (bump [sy ⟨#[70, 111, 111]⟩ 0] 0) 0)) c), row (B4_3) 35 #[.iface 209 (.pointer (some ⟨u6.heap.size, 0, none⟩)), .int .i32 loc], row (B4_2) 241 #[], row (B4_1) 35 #[.iface 209 (.pointer (some ⟨B4, 0, none⟩)), .int .i32 loc], row (B4) 211 #[.int .u32 0, .int .u32 0, .bool false, .bool false, .bool false], row (B1_3) 25 #[.int .u32 0, .int .u32 0], row (B1_2) 35 #[.nilIface, .int .i32 0], row (B1_1) 35 #[.iface kT (.pointer (some ⟨kx, 0, none⟩)), .int .i32 kl], row (B1) 31 #[.int .i32 loc], ((mp, .map #[] 0) : Rw), row (ms) 203 MC, row (cr) 25 #[.int .u32 0, .int .u32 0]] X := by
    rw [← hW]
    exact (((hO).set 2 rfl 0 _).alloc' _ (u6.heap.size) (by simp)).alloc' _ (u6.heap.size + 1) (by simp)
  clear hW hO
  generalize u6.heap.size + 1 = B7_1 at hN ⊢
  generalize u6.heap.size = B7 at hN ⊢
  have hO := hN
  clear hN
  have hL := hO.apart
  have hX := hO.apartX
  have HL := Lib.hid hL
  have HX := Lib.hid hX
  clear hL hX
  have hP9 := hO.pick [2, 3, 12, 13] (by decide)
  have h9_hn : (bump (bump [sy ⟨#[70, 111, 111]⟩ 0] 0) 0).length = 1 := rfl
  have h9_hnb : 1 ≤ 2000000 := (by decide)
  have h9_hno : Instr.findNow .string (.string (⟨#[95, 95, 115, 117, 112, 101, 114, 71, 101, 116]⟩ : ByteArray)) (#[] : Array MapEntry).toList 0 = some none := (by kernel_rfl)
  have T9 := callF0 pb PC sb c (bump (bump [sy ⟨#[70, 111, 111]⟩ 0] 0) 0) 1 0 mp #[] 0 ms MC loc ⟨#[95, 95, 115, 117, 112, 101, 114, 71, 101, 116]⟩ B7_1 3 3 _ _ _ hP9 hk350 hk32 hk105 hk66 hk117 hk187 hk106 h9_hn h9_hnb hgen h9_hno hg0 hg1
  refine Calls.mono T9 ?_
  clear hP9 T9 h9_hn h9_hnb h9_hno
  rintro e u9 ⟨nd10, nd11, nd12, nd13, nd14, nd15, rfl, hQ⟩
  have hN : Own w0 u9 [row (pb) 193 (PC.setIfInBounds 106 (.slice (some ⟨nd12, 0, none⟩) (1 + 1) (1 + 1 + nd13))), row (nd12) 56 (full symZ (symL (bump ((bump (bump [sy ⟨#[70, 111, 111]⟩ 0] 0) 0) ++ [syk ⟨#[95, 95, 115, 117, 112, 101, 114, 71, 101, 116]⟩ 27]) 1)) nd13), ((mp, .map (#[].push ⟨.string ⟨#[95, 95, 115, 117, 112, 101, 114, 71, 101, 116]⟩, .agg #[.int .i32 loc, .int .u32 0, .int .u32 1], 0⟩) (0 + 1)) : Rw), row (ms) 203 (MC.setIfInBounds 5 (.slice (some ⟨nd14, 0, none⟩) 1 (1 + nd15))), row (nd14) 25 (full refZ [.int .u32 0, .int .u32 1] nd15), row (nd11) 211 #[.int .u32 0, .int .u32 1, .bool false, .bool false, .bool false], row (nd10) 71 #[.iface 209 (.pointer (some ⟨nd11, 0, none⟩)), .int .i32 loc, .slice (some ⟨B7_1, 0, none⟩) 3 3, .int .i32 0, .int .u8 0, .int .u8 0, .bool false, .bool false], row (B7_1) 35 #[.iface 209 (.pointer (some ⟨B4, 0, none⟩)), .int .i32 loc, .iface 209 (.pointer (some ⟨B7, 0, none⟩)), .int .i32 loc, .iface kT (.pointer (some ⟨kx, 0, none⟩)), .int .i32 kl], row (B7) 211 #[.int .u32 0, .int .u32 0, .bool false, .bool false, .bool false], row (B4_3) 35 #[.iface 209 (.pointer (some ⟨B7, 0, none⟩)), .int .i32 loc], row (B4_2) 241 #[], row (B4_1) 35 #[.iface 209 (.pointer (some ⟨B4, 0, none⟩)), .int .i32 loc], row (B4) 211 #[.int .u32 0, .int .u32 0, .bool false, .bool false, .bool false], row (B1_3) 25 #[.int .u32 0, .int .u32 0], row (B1_2) 35 #[.nilIface, .int .i32 0], row (B1_1) 35 #[.iface kT (.pointer (some ⟨kx, 0, none⟩)), .int .i32 kl], row (B1) 31 #[.int .i32 loc], row (cr) 25 #[.int .u32 0, .int .u32 0]] X := hQ.back HL.out HX.out [0, 1, 4, 5, 6, 7, 8, 9, 10, 11, 14] (by decide) (by decide)
  clear hQ HL HX hO
  have hO := hN
  clear hN
  obtain ⟨ix9, hix9, hax9, hjx9⟩ := hO.ix
  have ix9_0 : ix9 pb = 0 := hjx9 0 _ _ rfl
  have ix9_1 : ix9 nd12 = 1 := hjx9 1 _ _ rfl
  have ix9_2 : ix9 mp = 2 := hjx9 2 _ _ rfl
  have ix9_3 : ix9 ms = 3 := hjx9 3 _ _ rfl
  have ix9_4 : ix9 nd14 = 4 := hjx9 4 _ _ rfl
  have ix9_5 : ix9 nd11 = 5 := hjx9 5 _ _ rfl
  have ix9_6 : ix9 nd10 = 6 := hjx9 6 _ _ rfl
  have ix9_7 : ix9 B7_1 = 7 := hjx9 7 _ _ rfl
  have ix9_8 : ix9 B7 = 8 := hjx9 8 _ _ rfl
  have ix9_9 : ix9 B4_3 = 9 := hjx9 9 _ _ rfl
  have ix9_10 : ix9 B4_2 = 10 := hjx9 10 _ _ rfl
  have ix9_11 : ix9 B4_1 = 11 := hjx9 11 _ _ rfl
  have ix9_12 : ix9 B4 = 12 := hjx9 12 _ _ rfl
  have ix9_13 : ix9 B1_3 = 13 := hjx9 13 _ _ rfl
  have ix9_14 : ix9 B1_2 = 14 := hjx9 14 _ _ rfl
  have ix9_15 : ix9 B1_1 = 15 := hjx9 15 _ _ rfl
  have ix9_16 : ix9 B1 = 16 := hjx9 16 _ _ rfl
  have ix9_17 : ix9 cr = 17 := hjx9 17 _ _ rfl
  clear hjx9
  have c9_0_32 : u9.cell? ⟨pb, 32, none⟩ = some (.bool false) := hO.cell 0 rfl 32 ((get_other hk32 (by omega) _))
  have c9_0_66 : u9.cell? ⟨pb, 66, none⟩ = some (.int .u32 0) := hO.cell 0 rfl 66 ((get_other hk66 (by omega) _))
  have c9_0_95 : u9.cell? ⟨pb, 95, none⟩ = some (.bool true) := hO.cell 0 rfl 95 ((get_other hk95 (by omega) _))
  have c9_0_96 : u9.cell? ⟨pb, 96, none⟩ = some (.bool true) := hO.cell 0 rfl 96 ((get_other hk96 (by omega) _))
  have c9_0_97 : u9.cell? ⟨pb, 97, none⟩ = some (.pointer (some ⟨cr, 0, none⟩)) := hO.cell 0 rfl 97 ((get_other hk97 (by omega) _))
  have c9_0_105 : u9.cell? ⟨pb, 105, none⟩ = some (.pointer none) := hO.cell 0 rfl 105 ((get_other hk105 (by omega) _))
  have c9_0_106 : u9.cell? ⟨pb, 106, none⟩ = some (.slice (some ⟨nd12, 0, none⟩) (1 + 1) (1 + 1 + nd13)) := hO.cell 0 rfl 106 ((get_set hk106 _))
  have c9_0_117 : u9.cell? ⟨pb, 117, none⟩ = some (.map (some mp)) := hO.cell 0 rfl 117 ((get_other hk117 (by omega) _))
  have c9_0_187 : u9.cell? ⟨pb, 187, none⟩ = some (.pointer (some ⟨ms, 0, none⟩)) := hO.cell 0 rfl 187 ((get_other hk187 (by omega) _))
  have c9_0_350 : u9.cell? ⟨pb, 350, none⟩ = some (.bool false) := hO.cell 0 rfl 350 ((get_other hk350 (by omega) _))
  have lt9_0 : pb < u9.heap.size := hO.lt 0 rfl
  have y9_0 : ∀ o, u9.frozen? ⟨pb, o, none⟩ = false := hO.free 0 rfl
  have c9_3_5 : u9.cell? ⟨ms, 5, none⟩ = some (.slice (some ⟨nd14, 0, none⟩) 1 (1 + nd15)) := hO.cell 3 rfl 5 ((get_set hgen _))
  have lt9_3 : ms < u9.heap.size := hO.lt 3 rfl
  have y9_3 : ∀ o, u9.frozen? ⟨ms, o, none⟩ = false := hO.free 3 rfl
  have pl9_4 : Base.plainAt u9 (nd14) = true := hO.plain 4 rfl
  have c9_4_0 : u9.cell? ⟨nd14, 0, none⟩ = some (.int .u32 0) := hO.cell 4 rfl 0 ((full_at rfl))
  have c9_4_1 : u9.cell? ⟨nd14, 1, none⟩ = some (.int .u32 1) := hO.cell 4 rfl 1 ((full_at rfl))
  have lt9_4 : nd14 < u9.heap.size := hO.lt 4 rfl
  have y9_4 : ∀ o, u9.frozen? ⟨nd14, o, none⟩ = false := hO.free 4 rfl
  obtain ⟨c9_5_0, c9_5_1, c9_5_2, c9_5_3, c9_5_4, lt9_5, y9_5, pl9_5⟩ := hO.k5 5 rfl
  obtain ⟨c9_6_0, c9_6_1, c9_6_2, c9_6_3, c9_6_4, c9_6_5, c9_6_6, c9_6_7, lt9_6, y9_6, -⟩ := hO.k8 6 rfl
  obtain ⟨c9_7_0, c9_7_1, c9_7_2, c9_7_3, c9_7_4, c9_7_5, lt9_7, y9_7, pl9_7⟩ := hO.k6 7 rfl
  obtain ⟨c9_8_0, c9_8_1, c9_8_2, c9_8_3, c9_8_4, lt9_8, y9_8, pl9_8⟩ := hO.k5 8 rfl
  obtain ⟨c9_9_0, c9_9_1, lt9_9, y9_9, pl9_9⟩ := hO.k2 9 rfl
  obtain ⟨lt9_10, y9_10, -⟩ := hO.k0 10 rfl
  obtain ⟨c9_11_0, c9_11_1, lt9_11, y9_11, pl9_11⟩ := hO.k2 11 rfl
  obtain ⟨c9_12_0, c9_12_1, c9_12_2, c9_12_3, c9_12_4, lt9_12, y9_12, pl9_12⟩ := hO.k5 12 rfl
  obtain ⟨c9_13_0, c9_13_1, lt9_13, y9_13, pl9_13⟩ := hO.k2 13 rfl
  obtain ⟨c9_14_0, c9_14_1, lt9_14, y9_14, pl9_14⟩ := hO.k2 14 rfl
  obtain ⟨c9_15_0, c9_15_1, lt9_15, y9_15, pl9_15⟩ := hO.k2 15 rfl
  obtain ⟨c9_16_0, lt9_16, y9_16, pl9_16⟩ := hO.k1 16 rfl
  obtain ⟨c9_17_0, c9_17_1, lt9_17, y9_17, pl9_17⟩ := hO.k2 17 rfl
  have HO := Lib.hid hO
  clear hO
  go_wp2_with (first | (with_reducible refine Own.stay (fn := Tryd.f52) ?_) | fail)
  try with_reducible refine Own.Stay.mk ?_
  have hO := HO.out
  clear HO hix9 hax9 ix9_0 ix9_1 ix9_2 ix9_3 ix9_4 ix9_5 ix9_6 ix9_7 ix9_8 ix9_9 ix9_10 ix9_11 ix9_12 ix9_13 ix9_14 ix9_15 ix9_16 ix9_17 ix9 c9_0_32 c9_0_66 c9_0_95 c9_0_96 c9_0_97 c9_0_105 c9_0_106 c9_0_117 c9_0_187 c9_0_350 lt9_0 y9_0 c9_3_5 lt9_3 y9_3 pl9_4 c9_4_0 c9_4_1 lt9_4 y9_4 c9_5_0 c9_5_1 c9_5_2 c9_5_3 c9_5_4 lt9_5 y9_5 pl9_5 c9_6_0 c9_6_1 c9_6_2 c9_6_3 c9_6_4 c9_6_5 c9_6_6 c9_6_7 lt9_6 y9_6 c9_7_0 c9_7_1 c9_7_2 c9_7_3 c9_7_4 c9_7_5 lt9_7 y9_7 pl9_7 c9_8_0 c9_8_1 c9_8_2 c9_8_3 c9_8_4 lt9_8 y9_8 pl9_8 c9_9_0 c9_9_1 lt9_9 y9_9 pl9_9 lt9_10 y9_10 c9_11_0 c9_11_1 lt9_11 y9_11 pl9_11 c9_12_0 c9_12_1 c9_12_2 c9_12_3 c9_12_4 lt9_12 y9_12 pl9_12 c9_13_0 c9_13_1 lt9_13 y9_13 pl9_13 c9_14_0 c9_14_1 lt9_14 y9_14 pl9_14 c9_15_0 c9_15_1 lt9_15 y9_15 pl9_15 c9_16_0 lt9_16 y9_16 pl9_16 c9_17_0 c9_17_1 lt9_17 y9_17 pl9_17
  generalize hW : World.setCell _ _ _ = W17
  have hN : Own w0 W17 [row (pb) 193 (PC.setIfInBounds 106 (.slice (some ⟨nd12, 0, none⟩) (1 + 1) (1 + 1 + nd13))), row (nd12) 56 (full symZ (symL (bump ((bump (bump [sy ⟨#[70, 111, 111]⟩ 0] 0) 0) ++ [syk ⟨#[95, 95, 115, 117, 112, 101, 114, 71, 101, 116]⟩ 27]) 1)) nd13), ((mp, .map (#[].push ⟨.string ⟨#[95, 95, 115, 117, 112, 101, 114, 71, 101, 116]⟩, .agg #[.int .i32 loc, .int .u32 0, .int .u32 1], 0⟩) (0 + 1)) : Rw), row (ms) 203 (MC.setIfInBounds 5 (.slice (some ⟨nd14, 0, none⟩) 1 (1 + nd15))), row (nd14) 25 (full refZ [.int .u32 0, .int .u32 1] nd15), row (nd11) 211 #[.int .u32 0, .int .u32 1, .bool false, .bool false, .bool false], row (nd10) 71 #[.iface 209 (.pointer (some ⟨nd11, 0, none⟩)), .int .i32 loc, .slice (some ⟨B7_1, 0, none⟩) 3 3, .int .i32 0, .int .u8 0, .int .u8 0, .bool false, .bool false], row (B7_1) 35 #[.iface 209 (.pointer (some ⟨B4, 0, none⟩)), .int .i32 loc, .iface 209 (.pointer (some ⟨B7, 0, none⟩)), .int .i32 loc, .iface kT (.pointer (some ⟨kx, 0, none⟩)), .int .i32 kl], row (B7) 211 #[.int .u32 0, .int .u32 0, .bool false, .bool false, .bool false], row (B4_3) 35 #[.iface 209 (.pointer (some ⟨B7, 0, none⟩)), .int .i32 loc], row (B4_2) 241 #[], row (B4_1) 35 #[.iface 209 (.pointer (some ⟨B4, 0, none⟩)), .int .i32 loc], row (B4) 211 #[.int .u32 0, .int .u32 0, .bool false, .bool false, .bool false], row (B1_3) 25 #[.int .u32 0, .int .u32 0], row (B1_2) 35 #[.iface 65 (.pointer (some ⟨nd10, 0, none⟩)), .int .i32 loc], row (B1_1) 35 #[.iface kT (.pointer (some ⟨kx, 0, none⟩)), .int .i32 kl], row (B1) 31 #[.int .i32 loc], row (cr) 25 #[.int .u32 0, .int .u32 0]] X := by
    rw [← hW]
    exact ((hO).set 14 rfl 0 _).set 14 rfl 1 _
  clear hW hO
  have hO := hN
  clear hN
  have z9_14_0 : W17.cell? ⟨B1_2, 0, none⟩ = some (.iface 65 (.pointer (some ⟨nd10, 0, none⟩))) := hO.cell 14 rfl 0 rfl
  have z9_14_1 : W17.cell? ⟨B1_2, 1, none⟩ = some (.int .i32 loc) := hO.cell 14 rfl 1 rfl
  refine bodyPost_ret (v := .agg #[.iface 65 (.pointer (some ⟨nd10, 0, none⟩)), .int .i32 loc]) ?_ rfl ⟨nd10, nd11, B7_1, B4, B7, nd12, nd13, nd14, nd15, B4_1, rfl, hO.sub [0, 1, 2, 3, 4, 17, 5, 6, 7, 12, 8, 11] (by decide)⟩
  simp [results, Tryd.results52, go_sem, z9_14_0, z9_14_1]
end Go.Proofs.YtkhmjppfogppoaaDoor.Use
