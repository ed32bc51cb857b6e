/- The law on a super call lowered twice, walked. No condition. -/
import Derived.Test.YtkhmjppfogppoaaDoorDoorC
import Derived.Test.YtkhmjppfogppoaaDoorReadC
import Derived.Test.YtkhmjppfogppoaaDoorNewL
import Derived.Test.YtkhmjppfogppoaaDoorUniG
import Derived.Test.YtkhmjppfogppoaaDoorKit2
import Derived.Test.YtkhmjppfogppoaaDoorKit
import Derived.Test.YtkhmjppfogppoaaDoorLoop
import Derived.Test.YtkhmjppfogppoaaDoorLive
import Derived.Test.YtkhmjppfogppoaaDoorApp
import Derived.Test.YtkhmjppfogppoaaDoorOwnK
import Derived.Test.YtkhmjppfogppoaaDoorOwn
import Derived.Test.YtkhmjppfogppoaaDoorDeepCells
import Derived.Test.YtkhmjppfogppoaaDoorRows
import Derived.Test.YtkhmjppfogppoaaDoorUse
namespace Go.Proofs.YtkhmjppfogppoaaDoor.Use
open Go.ChangeShapes Go.WideShapes Go.ChangeAt Go.RowKit Go.Sort Own
set_option linter.unusedVariables false
def law26n0Post (kind : Int) (name : ByteArray) (n : Nat) (l k1 s r : Bool) (loc im : Int) (w0 : World) (X : Nat → Obj → Prop) (e : Ending) (w' : World) : Prop :=
  e = .returned (.bool true) ∧ Own w0 w' [] X
set_option maxRecDepth 100000 in
set_option maxHeartbeats 1000000 in
theorem law26n0 (kind : Int) (name : ByteArray) (n : Nat) (l k1 s r : Bool) (loc im : Int) (w0 w : World) (X : Nat → Obj → Prop) (hO : Own w0 w [] X) (hkd : kind.tmod 4 = kn k1 false) (hlen : name.size ≤ 65536) (hn : n ≤ 4096) (hno : (l && !k1) = false) (hg0 : w0.cell? ⟨0, 0, none⟩ = some (.int .u32 4294967295)) (hg1 : w0.cell? ⟨0, 1, none⟩ = some (.int .u32 4294967295)) :
    Calls Tryd.prog 6 #[.int .u8 kind, .string name, .int .i64 (n : Int), .bool l, .bool s, .bool r, .int .i32 loc, .int .u32 im] w (law26n0Post kind name n l k1 s r loc im w0 X) := by
  go_enter Tryd.func6, Tryd.ntmps6
  have hl9 : (name.size : Int) ≤ 65536 := by omega
  have hn9 : (n : Int) ≤ 4096 := by omega
  go_wp2_with (first | (with_reducible refine Own.stay (fn := Tryd.f6) ?_) | (first | (go_at_call 27; go_in)))
  try with_reducible refine Own.Stay.mk ?_
  have hL := hO.apart
  have hX := hO.apartX
  have HL := Lib.hid hL
  have HX := Lib.hid hX
  clear hL hX
  have hP9 := hO.pick [] (by decide)
  have T9 := classSyms  _ _ _ hP9 hg0 hg1
  refine Calls.mono T9 ?_
  clear hP9 T9
  rintro e u1 ⟨nd2, rfl, hQ⟩
  have hN : Own w0 u1 [row (nd2) 56 (full symZ (symL ([sy ⟨#[70, 111, 111]⟩ 0])) 0)] X := hQ.back HL.out HX.out [] (by decide) (by decide)
  clear hQ HL HX hO
  have hO := hN
  clear hN
  go_wp2_with (first | (with_reducible refine Own.stay (fn := Tryd.f6) ?_) | (first | (go_at_call 27; go_in)))
  try with_reducible refine Own.Stay.mk ?_
  have hL := hO.apart
  have hX := hO.apartX
  have HL := Lib.hid hL
  have HX := Lib.hid hX
  clear hL hX
  have hP9 := hO.pick [] (by decide)
  have T9 := newSrsl r s l nd2 _ _ _ hP9 
  refine Calls.mono T9 ?_
  clear hP9 T9
  rintro e u3 ⟨nd4, nd5, nd6, nd7, rfl, hQ⟩
  have hN : Own w0 u3 [row (nd4) 193 (newSrslP r s l nd2 nd5 nd6 nd7), ((nd5, .map #[] 0) : Rw), row (nd6) 203 #[.pointer none, .pointer none, .slice none 0 0, .map none, .slice none 0 0, .slice none 0 0, .int .i32 0, .int .i32 0, .int .u32 0, .int .u32 0, .bool false, .bool false, .bool false, .bool false, .int .u8 0, .int .u8 6], row (nd7) 25 #[.int .u32 0, .int .u32 0], row (nd2) 56 (full symZ (symL ([sy ⟨#[70, 111, 111]⟩ 0])) 0)] X := hQ.back HL.out HX.out [0] (by decide) (by decide)
  clear hQ HL HX hO
  have hO := hN
  clear hN
  obtain ⟨c9_3_0, c9_3_1, lt9_3, y9_3, -⟩ := hO.k2 3 rfl
  have HO := Lib.hid hO
  clear hO
  go_wp2_with (first | (with_reducible refine Own.stay (fn := Tryd.f6) ?_) | (first | (go_at_call 27; go_in)))
  try with_reducible refine Own.Stay.mk ?_
  have hO := HO.out
  clear HO c9_3_0 c9_3_1 lt9_3 y9_3
  have hL := hO.apart
  have hX := hO.apartX
  have HL := Lib.hid hL
  have HX := Lib.hid hX
  clear hL hX
  have hP9 := hO.pick [] (by decide)
  have T9 := buildCall kind name n loc im k1 false _ _ _ hP9 hkd hn
  refine Calls.mono T9 ?_
  clear hP9 T9
  rintro e u8 ⟨nd9, nd10, nd11, nd12, nd13, nd14, rfl, hQ⟩
  have hN : Own w0 u8 [row (nd9) 71 #[.iface (tgTy k1 false) (.pointer (some ⟨nd10, 0, none⟩)), .int .i32 loc, .slice (some ⟨nd13, 0, none⟩) n n, .int .i32 0, .int .u8 0, .int .u8 0, .bool false, .bool false], row (nd10) (tgT k1 false) (tgC k1 false name loc im nd11 nd12), row (nd13) 35 ((args loc nd14 n).toArray), row (nd4) 193 (newSrslP r s l nd2 nd5 nd6 nd7), ((nd5, .map #[] 0) : Rw), row (nd6) 203 #[.pointer none, .pointer none, .slice none 0 0, .map none, .slice none 0 0, .slice none 0 0, .int .i32 0, .int .i32 0, .int .u32 0, .int .u32 0, .bool false, .bool false, .bool false, .bool false, .int .u8 0, .int .u8 6], row (nd7) 25 #[.int .u32 0, .int .u32 0], row (nd2) 56 (full symZ (symL ([sy ⟨#[70, 111, 111]⟩ 0])) 0)] X := hQ.back HL.out HX.out [0, 1, 2, 3, 4] (by decide) (by decide)
  clear hQ HL HX hO
  have hO := hN
  clear hN
  obtain ⟨c9_0_0, c9_0_1, c9_0_2, c9_0_3, c9_0_4, c9_0_5, c9_0_6, c9_0_7, lt9_0, y9_0, -⟩ := hO.k8 0 rfl
  obtain ⟨c9_6_0, c9_6_1, lt9_6, y9_6, -⟩ := hO.k2 6 rfl
  have HO := Lib.hid hO
  clear hO
  go_wp2_with (first | (with_reducible refine Own.stay (fn := Tryd.f6) ?_) | (first | (go_at_call 27; go_in)))
  try with_reducible refine Own.Stay.mk ?_
  have hO := HO.out
  clear HO c9_0_0 c9_0_1 c9_0_2 c9_0_3 c9_0_4 c9_0_5 c9_0_6 c9_0_7 lt9_0 y9_0 c9_6_0 c9_6_1 lt9_6 y9_6
  have hL := hO.apart
  have hX := hO.apartX
  have HL := Lib.hid hL
  have HX := Lib.hid hX
  clear hL hX
  have hP9 := hO.pick [3, 0, 1] (by decide)
  have T9 := dlowNo nd4 (newSrslP r s l nd2 nd5 nd6 nd7) k1 false l name loc im nd11 nd12 nd9 nd10 nd13 n _ _ _ hP9 (newSrsl_338 r s l nd2 nd5 nd6 nd7) hno
  refine Calls.mono T9 ?_
  clear hP9 T9
  rintro e u15 ⟨rfl, hQ⟩
  have hN : Own w0 u15 [row (nd4) 193 (newSrslP r s l nd2 nd5 nd6 nd7), row (nd9) 71 #[.iface (tgTy k1 false) (.pointer (some ⟨nd10, 0, none⟩)), .int .i32 loc, .slice (some ⟨nd13, 0, none⟩) n n, .int .i32 0, .int .u8 0, .int .u8 0, .bool false, .bool false], row (nd10) (tgT k1 false) (tgC k1 false name loc im nd11 nd12), row (nd13) 35 ((args loc nd14 n).toArray), ((nd5, .map #[] 0) : Rw), row (nd6) 203 #[.pointer none, .pointer none, .slice none 0 0, .map none, .slice none 0 0, .slice none 0 0, .int .i32 0, .int .i32 0, .int .u32 0, .int .u32 0, .bool false, .bool false, .bool false, .bool false, .int .u8 0, .int .u8 6], row (nd7) 25 #[.int .u32 0, .int .u32 0], row (nd2) 56 (full symZ (symL ([sy ⟨#[70, 111, 111]⟩ 0])) 0)] X := hQ.back HL.out HX.out [2, 4, 5, 6, 7] (by decide) (by decide)
  clear hQ HL HX hO
  have hO := hN
  clear hN
  obtain ⟨c9_1_0, c9_1_1, c9_1_2, c9_1_3, c9_1_4, c9_1_5, c9_1_6, c9_1_7, lt9_1, y9_1, -⟩ := hO.k8 1 rfl
  obtain ⟨c9_6_0, c9_6_1, lt9_6, y9_6, -⟩ := hO.k2 6 rfl
  have HO := Lib.hid hO
  clear hO
  go_wp2_with (first | (with_reducible refine Own.stay (fn := Tryd.f6) ?_) | (first | (go_at_call 27; go_in)))
  try with_reducible refine Own.Stay.mk ?_
  have hO := HO.out
  clear HO c9_1_0 c9_1_1 c9_1_2 c9_1_3 c9_1_4 c9_1_5 c9_1_6 c9_1_7 lt9_1 y9_1 c9_6_0 c9_6_1 lt9_6 y9_6
  have hL := hO.apart
  have hX := hO.apartX
  have HL := Lib.hid hL
  have HX := Lib.hid hX
  clear hL hX
  have hP9 := hO.pick [0] (by decide)
  have T9 := symsO nd4 (newSrslP r s l nd2 nd5 nd6 nd7) nd2 1 1 _ _ _ hP9 (newSrsl_106 r s l nd2 nd5 nd6 nd7)
  refine Calls.mono T9 ?_
  clear hP9 T9
  rintro e u16 ⟨rfl, hQ⟩
  have hN : Own w0 u16 [row (nd4) 193 (newSrslP r s l nd2 nd5 nd6 nd7), row (nd9) 71 #[.iface (tgTy k1 false) (.pointer (some ⟨nd10, 0, none⟩)), .int .i32 loc, .slice (some ⟨nd13, 0, none⟩) n n, .int .i32 0, .int .u8 0, .int .u8 0, .bool false, .bool false], row (nd10) (tgT k1 false) (tgC k1 false name loc im nd11 nd12), row (nd13) 35 ((args loc nd14 n).toArray), ((nd5, .map #[] 0) : Rw), row (nd6) 203 #[.pointer none, .pointer none, .slice none 0 0, .map none, .slice none 0 0, .slice none 0 0, .int .i32 0, .int .i32 0, .int .u32 0, .int .u32 0, .bool false, .bool false, .bool false, .bool false, .int .u8 0, .int .u8 6], row (nd7) 25 #[.int .u32 0, .int .u32 0], row (nd2) 56 (full symZ (symL ([sy ⟨#[70, 111, 111]⟩ 0])) 0)] X := hQ.back HL.out HX.out [1, 2, 3, 4, 5, 6, 7] (by decide) (by decide)
  clear hQ HL HX hO
  have hO := hN
  clear hN
  obtain ⟨ix9, hix9, hax9, hjx9⟩ := hO.ix
  have ix9_0 : ix9 nd4 = 0 := hjx9 0 _ _ rfl
  have ix9_1 : ix9 nd9 = 1 := hjx9 1 _ _ rfl
  have ix9_2 : ix9 nd10 = 2 := hjx9 2 _ _ rfl
  have ix9_3 : ix9 nd13 = 3 := hjx9 3 _ _ rfl
  have ix9_4 : ix9 nd5 = 4 := hjx9 4 _ _ rfl
  have ix9_5 : ix9 nd6 = 5 := hjx9 5 _ _ rfl
  have ix9_6 : ix9 nd7 = 6 := hjx9 6 _ _ rfl
  have ix9_7 : ix9 nd2 = 7 := hjx9 7 _ _ rfl
  clear hjx9
  have c9_0_32 : u16.cell? ⟨nd4, 32, none⟩ = some (.bool false) := hO.cell 0 rfl (32) ((newSrsl_32 r s l nd2 nd5 nd6 nd7))
  have c9_0_66 : u16.cell? ⟨nd4, 66, none⟩ = some (.int .u32 0) := hO.cell 0 rfl (66) ((newSrsl_66 r s l nd2 nd5 nd6 nd7))
  have c9_0_95 : u16.cell? ⟨nd4, 95, none⟩ = some (.bool r) := hO.cell 0 rfl (95) ((newSrsl_95 r s l nd2 nd5 nd6 nd7))
  have c9_0_96 : u16.cell? ⟨nd4, 96, none⟩ = some (.bool s) := hO.cell 0 rfl (96) ((newSrsl_96 r s l nd2 nd5 nd6 nd7))
  have c9_0_97 : u16.cell? ⟨nd4, 97, none⟩ = some (.pointer (some ⟨nd7, 0, none⟩)) := hO.cell 0 rfl (97) ((newSrsl_97 r s l nd2 nd5 nd6 nd7))
  have c9_0_105 : u16.cell? ⟨nd4, 105, none⟩ = some (.pointer none) := hO.cell 0 rfl (105) ((newSrsl_105 r s l nd2 nd5 nd6 nd7))
  have c9_0_106 : u16.cell? ⟨nd4, 106, none⟩ = some (.slice (some ⟨nd2, 0, none⟩) 1 1) := hO.cell 0 rfl (106) ((newSrsl_106 r s l nd2 nd5 nd6 nd7))
  have c9_0_117 : u16.cell? ⟨nd4, 117, none⟩ = some (.map (some nd5)) := hO.cell 0 rfl (117) ((newSrsl_117 r s l nd2 nd5 nd6 nd7))
  have c9_0_187 : u16.cell? ⟨nd4, 187, none⟩ = some (.pointer (some ⟨nd6, 0, none⟩)) := hO.cell 0 rfl (187) ((newSrsl_187 r s l nd2 nd5 nd6 nd7))
  have c9_0_338 : u16.cell? ⟨nd4, 338, none⟩ = some (.bool l) := hO.cell 0 rfl (338) ((newSrsl_338 r s l nd2 nd5 nd6 nd7))
  have c9_0_350 : u16.cell? ⟨nd4, 350, none⟩ = some (.bool false) := hO.cell 0 rfl (350) ((newSrsl_350 r s l nd2 nd5 nd6 nd7))
  have lt9_0 : nd4 < u16.heap.size := hO.lt 0 rfl
  have y9_0 : ∀ o, u16.frozen? ⟨nd4, o, none⟩ = false := hO.free 0 rfl
  obtain ⟨c9_1_0, c9_1_1, c9_1_2, c9_1_3, c9_1_4, c9_1_5, c9_1_6, c9_1_7, lt9_1, y9_1, -⟩ := hO.k8 1 rfl
  obtain ⟨c9_6_0, c9_6_1, lt9_6, y9_6, -⟩ := hO.k2 6 rfl
  have c9_7_1 : u16.cell? ⟨nd2, 1, none⟩ = some (.string ⟨#[70, 111, 111]⟩) := hO.cell 7 rfl (1) ((full_at rfl))
  have c9_7_4 : u16.cell? ⟨nd2, 4, none⟩ = some (.int .u32 0) := hO.cell 7 rfl (4) ((full_at rfl))
  have lt9_7 : nd2 < u16.heap.size := hO.lt 7 rfl
  have y9_7 : ∀ o, u16.frozen? ⟨nd2, o, none⟩ = false := hO.free 7 rfl
  have HO := Lib.hid hO
  clear hO
  go_wp2_with (first | (with_reducible refine Own.stay (fn := Tryd.f6) ?_) | (first | (go_at_call 27; go_in)))
  try with_reducible refine Own.Stay.mk ?_
  have hO := HO.out
  clear HO hix9 hax9 ix9_0 ix9_1 ix9_2 ix9_3 ix9_4 ix9_5 ix9_6 ix9_7 ix9 c9_0_32 c9_0_66 c9_0_95 c9_0_96 c9_0_97 c9_0_105 c9_0_106 c9_0_117 c9_0_187 c9_0_338 c9_0_350 lt9_0 y9_0 c9_1_0 c9_1_1 c9_1_2 c9_1_3 c9_1_4 c9_1_5 c9_1_6 c9_1_7 lt9_1 y9_1 c9_6_0 c9_6_1 lt9_6 y9_6 c9_7_1 c9_7_4 lt9_7 y9_7
  have hL := hO.apart
  have hX := hO.apartX
  have HL := Lib.hid hL
  have HX := Lib.hid hX
  clear hL hX
  have hP9 := hO.pick [0, 4] (by decide)
  have h9_hsz : (#[] : Array MapEntry).size = 0 := rfl
  have T9 := impCnt nd4 (newSrslP r s l nd2 nd5 nd6 nd7) nd5 #[] 0 0 _ _ _ hP9 (newSrsl_117 r s l nd2 nd5 nd6 nd7) h9_hsz
  refine Calls.mono T9 ?_
  clear hP9 T9 h9_hsz
  rintro e u17 ⟨rfl, hQ⟩
  have hN : Own w0 u17 [row (nd4) 193 (newSrslP r s l nd2 nd5 nd6 nd7), ((nd5, .map #[] 0) : Rw), row (nd9) 71 #[.iface (tgTy k1 false) (.pointer (some ⟨nd10, 0, none⟩)), .int .i32 loc, .slice (some ⟨nd13, 0, none⟩) n n, .int .i32 0, .int .u8 0, .int .u8 0, .bool false, .bool false], row (nd10) (tgT k1 false) (tgC k1 false name loc im nd11 nd12), row (nd13) 35 ((args loc nd14 n).toArray), row (nd6) 203 #[.pointer none, .pointer none, .slice none 0 0, .map none, .slice none 0 0, .slice none 0 0, .int .i32 0, .int .i32 0, .int .u32 0, .int .u32 0, .bool false, .bool false, .bool false, .bool false, .int .u8 0, .int .u8 6], row (nd7) 25 #[.int .u32 0, .int .u32 0], row (nd2) 56 (full symZ (symL ([sy ⟨#[70, 111, 111]⟩ 0])) 0)] X := hQ.back HL.out HX.out [1, 2, 3, 5, 6, 7] (by decide) (by decide)
  clear hQ HL HX hO
  have hO := hN
  clear hN
  obtain ⟨c9_2_0, c9_2_1, c9_2_2, c9_2_3, c9_2_4, c9_2_5, c9_2_6, c9_2_7, lt9_2, y9_2, -⟩ := hO.k8 2 rfl
  obtain ⟨c9_6_0, c9_6_1, lt9_6, y9_6, -⟩ := hO.k2 6 rfl
  have HO := Lib.hid hO
  clear hO
  go_wp2_with (first | (with_reducible refine Own.stay (fn := Tryd.f6) ?_) | (first | (go_at_call 27; go_in)))
  try with_reducible refine Own.Stay.mk ?_
  have hO := HO.out
  clear HO c9_2_0 c9_2_1 c9_2_2 c9_2_3 c9_2_4 c9_2_5 c9_2_6 c9_2_7 lt9_2 y9_2 c9_6_0 c9_6_1 lt9_6 y9_6
  have hL := hO.apart
  have hX := hO.apartX
  have HL := Lib.hid hL
  have HX := Lib.hid hX
  clear hL hX
  have hP9 := hO.pick [3] (by decide)
  have T9 := dotOfU0 k1 name loc im nd11 nd12 nd10 loc _ _ _ hP9 
  refine Calls.mono T9 ?_
  clear hP9 T9
  rintro e u18 ⟨rfl, hQ⟩
  have hN : Own w0 u18 [row (nd10) (tgT k1 false) (tgC k1 false name loc im nd11 nd12), row (nd4) 193 (newSrslP r s l nd2 nd5 nd6 nd7), ((nd5, .map #[] 0) : Rw), row (nd9) 71 #[.iface (tgTy k1 false) (.pointer (some ⟨nd10, 0, none⟩)), .int .i32 loc, .slice (some ⟨nd13, 0, none⟩) n n, .int .i32 0, .int .u8 0, .int .u8 0, .bool false, .bool false], row (nd13) 35 ((args loc nd14 n).toArray), row (nd6) 203 #[.pointer none, .pointer none, .slice none 0 0, .map none, .slice none 0 0, .slice none 0 0, .int .i32 0, .int .i32 0, .int .u32 0, .int .u32 0, .bool false, .bool false, .bool false, .bool false, .int .u8 0, .int .u8 6], row (nd7) 25 #[.int .u32 0, .int .u32 0], row (nd2) 56 (full symZ (symL ([sy ⟨#[70, 111, 111]⟩ 0])) 0)] X := hQ.back HL.out HX.out [0, 1, 2, 4, 5, 6, 7] (by decide) (by decide)
  clear hQ HL HX hO
  have hO := hN
  clear hN
  obtain ⟨c9_3_0, c9_3_1, c9_3_2, c9_3_3, c9_3_4, c9_3_5, c9_3_6, c9_3_7, lt9_3, y9_3, -⟩ := hO.k8 3 rfl
  obtain ⟨c9_6_0, c9_6_1, lt9_6, y9_6, -⟩ := hO.k2 6 rfl
  have HO := Lib.hid hO
  clear hO
  go_wp2_with (first | (with_reducible refine Own.stay (fn := Tryd.f6) ?_) | (first | (go_at_call 27; go_in)))
  try with_reducible refine Own.Stay.mk ?_
  have hO := HO.out
  clear HO c9_3_0 c9_3_1 c9_3_2 c9_3_3 c9_3_4 c9_3_5 c9_3_6 c9_3_7 lt9_3 y9_3 c9_6_0 c9_6_1 lt9_6 y9_6
  generalize hW : World.alloc _ _ = W20
  have hN : Own w0 W20 [row (u18.heap.size) 35 #[.iface (dtT k1) (.pointer (some ⟨dtB k1 nd11 nd12, 0, none⟩)), .int .i32 loc], row (nd10) (tgT k1 false) (tgC k1 false name loc im nd11 nd12), row (nd4) 193 (newSrslP r s l nd2 nd5 nd6 nd7), ((nd5, .map #[] 0) : Rw), row (nd9) 71 #[.iface (tgTy k1 false) (.pointer (some ⟨nd10, 0, none⟩)), .int .i32 loc, .slice (some ⟨nd13, 0, none⟩) n n, .int .i32 0, .int .u8 0, .int .u8 0, .bool false, .bool false], row (nd13) 35 ((args loc nd14 n).toArray), row (nd6) 203 #[.pointer none, .pointer none, .slice none 0 0, .map none, .slice none 0 0, .slice none 0 0, .int .i32 0, .int .i32 0, .int .u32 0, .int .u32 0, .bool false, .bool false, .bool false, .bool false, .int .u8 0, .int .u8 6], row (nd7) 25 #[.int .u32 0, .int .u32 0], row (nd2) 56 (full symZ (symL ([sy ⟨#[70, 111, 111]⟩ 0])) 0)] X := by
    rw [← hW]
    exact (hO).alloc' _ (u18.heap.size) (by simp)
  clear hW hO
  generalize u18.heap.size = B19 at hN ⊢
  have hO := hN
  clear hN
  have hL := hO.apart
  have hX := hO.apartX
  have HL := Lib.hid hL
  have HX := Lib.hid hX
  clear hL hX
  have hP9 := hO.pick [2, 4, 1] (by decide)
  have T9 := dlowNo nd4 (newSrslP r s l nd2 nd5 nd6 nd7) k1 false l name loc im nd11 nd12 nd9 nd10 nd13 n _ _ _ hP9 (newSrsl_338 r s l nd2 nd5 nd6 nd7) hno
  refine Calls.mono T9 ?_
  clear hP9 T9
  rintro e u21 ⟨rfl, hQ⟩
  have hN : Own w0 u21 [row (nd4) 193 (newSrslP r s l nd2 nd5 nd6 nd7), row (nd9) 71 #[.iface (tgTy k1 false) (.pointer (some ⟨nd10, 0, none⟩)), .int .i32 loc, .slice (some ⟨nd13, 0, none⟩) n n, .int .i32 0, .int .u8 0, .int .u8 0, .bool false, .bool false], row (nd10) (tgT k1 false) (tgC k1 false name loc im nd11 nd12), row (B19) 35 #[.iface (dtT k1) (.pointer (some ⟨dtB k1 nd11 nd12, 0, none⟩)), .int .i32 loc], ((nd5, .map #[] 0) : Rw), row (nd13) 35 ((args loc nd14 n).toArray), row (nd6) 203 #[.pointer none, .pointer none, .slice none 0 0, .map none, .slice none 0 0, .slice none 0 0, .int .i32 0, .int .i32 0, .int .u32 0, .int .u32 0, .bool false, .bool false, .bool false, .bool false, .int .u8 0, .int .u8 6], row (nd7) 25 #[.int .u32 0, .int .u32 0], row (nd2) 56 (full symZ (symL ([sy ⟨#[70, 111, 111]⟩ 0])) 0)] X := hQ.back HL.out HX.out [0, 3, 5, 6, 7, 8] (by decide) (by decide)
  clear hQ HL HX hO
  have hO := hN
  clear hN
  obtain ⟨c9_1_0, c9_1_1, c9_1_2, c9_1_3, c9_1_4, c9_1_5, c9_1_6, c9_1_7, lt9_1, y9_1, -⟩ := hO.k8 1 rfl
  obtain ⟨c9_3_0, c9_3_1, lt9_3, y9_3, -⟩ := hO.k2 3 rfl
  obtain ⟨c9_7_0, c9_7_1, lt9_7, y9_7, -⟩ := hO.k2 7 rfl
  have HO := Lib.hid hO
  clear hO
  go_wp2_with (first | (with_reducible refine Own.stay (fn := Tryd.f6) ?_) | (first | (go_at_call 27; go_in)))
  try with_reducible refine Own.Stay.mk ?_
  have hO := HO.out
  clear HO c9_1_0 c9_1_1 c9_1_2 c9_1_3 c9_1_4 c9_1_5 c9_1_6 c9_1_7 lt9_1 y9_1 c9_3_0 c9_3_1 lt9_3 y9_3 c9_7_0 c9_7_1 lt9_7 y9_7
  have hL := hO.apart
  have hX := hO.apartX
  have HL := Lib.hid hL
  have HX := Lib.hid hX
  clear hL hX
  have hP9 := hO.pick [0] (by decide)
  have T9 := symsO nd4 (newSrslP r s l nd2 nd5 nd6 nd7) nd2 1 1 _ _ _ hP9 (newSrsl_106 r s l nd2 nd5 nd6 nd7)
  refine Calls.mono T9 ?_
  clear hP9 T9
  rintro e u22 ⟨rfl, hQ⟩
  have hN : Own w0 u22 [row (nd4) 193 (newSrslP r s l nd2 nd5 nd6 nd7), row (nd9) 71 #[.iface (tgTy k1 false) (.pointer (some ⟨nd10, 0, none⟩)), .int .i32 loc, .slice (some ⟨nd13, 0, none⟩) n n, .int .i32 0, .int .u8 0, .int .u8 0, .bool false, .bool false], row (nd10) (tgT k1 false) (tgC k1 false name loc im nd11 nd12), row (B19) 35 #[.iface (dtT k1) (.pointer (some ⟨dtB k1 nd11 nd12, 0, none⟩)), .int .i32 loc], ((nd5, .map #[] 0) : Rw), row (nd13) 35 ((args loc nd14 n).toArray), row (nd6) 203 #[.pointer none, .pointer none, .slice none 0 0, .map none, .slice none 0 0, .slice none 0 0, .int .i32 0, .int .i32 0, .int .u32 0, .int .u32 0, .bool false, .bool false, .bool false, .bool false, .int .u8 0, .int .u8 6], row (nd7) 25 #[.int .u32 0, .int .u32 0], row (nd2) 56 (full symZ (symL ([sy ⟨#[70, 111, 111]⟩ 0])) 0)] X := hQ.back HL.out HX.out [1, 2, 3, 4, 5, 6, 7, 8] (by decide) (by decide)
  clear hQ HL HX hO
  have hO := hN
  clear hN
  obtain ⟨c9_1_0, c9_1_1, c9_1_2, c9_1_3, c9_1_4, c9_1_5, c9_1_6, c9_1_7, lt9_1, y9_1, -⟩ := hO.k8 1 rfl
  obtain ⟨c9_3_0, c9_3_1, lt9_3, y9_3, -⟩ := hO.k2 3 rfl
  obtain ⟨c9_7_0, c9_7_1, lt9_7, y9_7, -⟩ := hO.k2 7 rfl
  have HO := Lib.hid hO
  clear hO
  go_wp2_with (first | (with_reducible refine Own.stay (fn := Tryd.f6) ?_) | (first | (go_at_call 27; go_in)))
  try with_reducible refine Own.Stay.mk ?_
  have hO := HO.out
  clear HO c9_1_0 c9_1_1 c9_1_2 c9_1_3 c9_1_4 c9_1_5 c9_1_6 c9_1_7 lt9_1 y9_1 c9_3_0 c9_3_1 lt9_3 y9_3 c9_7_0 c9_7_1 lt9_7 y9_7
  have hL := hO.apart
  have hX := hO.apartX
  have HL := Lib.hid hL
  have HX := Lib.hid hX
  clear hL hX
  have hP9 := hO.pick [2] (by decide)
  have T9 := dotOfU0 k1 name loc im nd11 nd12 nd10 loc _ _ _ hP9 
  refine Calls.mono T9 ?_
  clear hP9 T9
  rintro e u23 ⟨rfl, hQ⟩
  have hN : Own w0 u23 [row (nd10) (tgT k1 false) (tgC k1 false name loc im nd11 nd12), row (nd4) 193 (newSrslP r s l nd2 nd5 nd6 nd7), row (nd9) 71 #[.iface (tgTy k1 false) (.pointer (some ⟨nd10, 0, none⟩)), .int .i32 loc, .slice (some ⟨nd13, 0, none⟩) n n, .int .i32 0, .int .u8 0, .int .u8 0, .bool false, .bool false], row (B19) 35 #[.iface (dtT k1) (.pointer (some ⟨dtB k1 nd11 nd12, 0, none⟩)), .int .i32 loc], ((nd5, .map #[] 0) : Rw), row (nd13) 35 ((args loc nd14 n).toArray), row (nd6) 203 #[.pointer none, .pointer none, .slice none 0 0, .map none, .slice none 0 0, .slice none 0 0, .int .i32 0, .int .i32 0, .int .u32 0, .int .u32 0, .bool false, .bool false, .bool false, .bool false, .int .u8 0, .int .u8 6], row (nd7) 25 #[.int .u32 0, .int .u32 0], row (nd2) 56 (full symZ (symL ([sy ⟨#[70, 111, 111]⟩ 0])) 0)] X := hQ.back HL.out HX.out [0, 1, 3, 4, 5, 6, 7, 8] (by decide) (by decide)
  clear hQ HL HX hO
  have hO := hN
  clear hN
  obtain ⟨ix9, hix9, hax9, hjx9⟩ := hO.ix
  have ix9_0 : ix9 nd10 = 0 := hjx9 0 _ _ rfl
  have ix9_1 : ix9 nd4 = 1 := hjx9 1 _ _ rfl
  have ix9_2 : ix9 nd9 = 2 := hjx9 2 _ _ rfl
  have ix9_3 : ix9 B19 = 3 := hjx9 3 _ _ rfl
  have ix9_4 : ix9 nd5 = 4 := hjx9 4 _ _ rfl
  have ix9_5 : ix9 nd13 = 5 := hjx9 5 _ _ rfl
  have ix9_6 : ix9 nd6 = 6 := hjx9 6 _ _ rfl
  have ix9_7 : ix9 nd7 = 7 := hjx9 7 _ _ rfl
  have ix9_8 : ix9 nd2 = 8 := hjx9 8 _ _ rfl
  clear hjx9
  have c9_1_32 : u23.cell? ⟨nd4, 32, none⟩ = some (.bool false) := hO.cell 1 rfl (32) ((newSrsl_32 r s l nd2 nd5 nd6 nd7))
  have c9_1_66 : u23.cell? ⟨nd4, 66, none⟩ = some (.int .u32 0) := hO.cell 1 rfl (66) ((newSrsl_66 r s l nd2 nd5 nd6 nd7))
  have c9_1_95 : u23.cell? ⟨nd4, 95, none⟩ = some (.bool r) := hO.cell 1 rfl (95) ((newSrsl_95 r s l nd2 nd5 nd6 nd7))
  have c9_1_96 : u23.cell? ⟨nd4, 96, none⟩ = some (.bool s) := hO.cell 1 rfl (96) ((newSrsl_96 r s l nd2 nd5 nd6 nd7))
  have c9_1_97 : u23.cell? ⟨nd4, 97, none⟩ = some (.pointer (some ⟨nd7, 0, none⟩)) := hO.cell 1 rfl (97) ((newSrsl_97 r s l nd2 nd5 nd6 nd7))
  have c9_1_105 : u23.cell? ⟨nd4, 105, none⟩ = some (.pointer none) := hO.cell 1 rfl (105) ((newSrsl_105 r s l nd2 nd5 nd6 nd7))
  have c9_1_106 : u23.cell? ⟨nd4, 106, none⟩ = some (.slice (some ⟨nd2, 0, none⟩) 1 1) := hO.cell 1 rfl (106) ((newSrsl_106 r s l nd2 nd5 nd6 nd7))
  have c9_1_117 : u23.cell? ⟨nd4, 117, none⟩ = some (.map (some nd5)) := hO.cell 1 rfl (117) ((newSrsl_117 r s l nd2 nd5 nd6 nd7))
  have c9_1_187 : u23.cell? ⟨nd4, 187, none⟩ = some (.pointer (some ⟨nd6, 0, none⟩)) := hO.cell 1 rfl (187) ((newSrsl_187 r s l nd2 nd5 nd6 nd7))
  have c9_1_338 : u23.cell? ⟨nd4, 338, none⟩ = some (.bool l) := hO.cell 1 rfl (338) ((newSrsl_338 r s l nd2 nd5 nd6 nd7))
  have c9_1_350 : u23.cell? ⟨nd4, 350, none⟩ = some (.bool false) := hO.cell 1 rfl (350) ((newSrsl_350 r s l nd2 nd5 nd6 nd7))
  have lt9_1 : nd4 < u23.heap.size := hO.lt 1 rfl
  have y9_1 : ∀ o, u23.frozen? ⟨nd4, o, none⟩ = false := hO.free 1 rfl
  obtain ⟨c9_2_0, c9_2_1, c9_2_2, c9_2_3, c9_2_4, c9_2_5, c9_2_6, c9_2_7, lt9_2, y9_2, -⟩ := hO.k8 2 rfl
  obtain ⟨c9_3_0, c9_3_1, lt9_3, y9_3, pl9_3⟩ := hO.k2 3 rfl
  have pl9_5 : Base.plainAt u23 (nd13) = true := hO.plain 5 rfl
  obtain ⟨c9_7_0, c9_7_1, lt9_7, y9_7, -⟩ := hO.k2 7 rfl
  have c9_8_1 : u23.cell? ⟨nd2, 1, none⟩ = some (.string ⟨#[70, 111, 111]⟩) := hO.cell 8 rfl (1) ((full_at rfl))
  have c9_8_4 : u23.cell? ⟨nd2, 4, none⟩ = some (.int .u32 0) := hO.cell 8 rfl (4) ((full_at rfl))
  have lt9_8 : nd2 < u23.heap.size := hO.lt 8 rfl
  have y9_8 : ∀ o, u23.frozen? ⟨nd2, o, none⟩ = false := hO.free 8 rfl
  have HO := Lib.hid hO
  clear hO
  go_wp2_with (first | (with_reducible refine Own.stay (fn := Tryd.f6) ?_) | (first | (go_at_call 27; go_in)))
  try with_reducible refine Own.Stay.mk ?_
  have hO := HO.out
  clear HO hix9 hax9 ix9_0 ix9_1 ix9_2 ix9_3 ix9_4 ix9_5 ix9_6 ix9_7 ix9_8 ix9 c9_1_32 c9_1_66 c9_1_95 c9_1_96 c9_1_97 c9_1_105 c9_1_106 c9_1_117 c9_1_187 c9_1_338 c9_1_350 lt9_1 y9_1 c9_2_0 c9_2_1 c9_2_2 c9_2_3 c9_2_4 c9_2_5 c9_2_6 c9_2_7 lt9_2 y9_2 c9_3_0 c9_3_1 lt9_3 y9_3 pl9_3 pl9_5 c9_7_0 c9_7_1 lt9_7 y9_7 c9_8_1 c9_8_4 lt9_8 y9_8
  generalize hW : World.alloc _ _ = W25
  have hN : Own w0 W25 [row (u23.heap.size) 35 #[.iface (dtT k1) (.pointer (some ⟨dtB k1 nd11 nd12, 0, none⟩)), .int .i32 loc], row (nd10) (tgT k1 false) (tgC k1 false name loc im nd11 nd12), row (nd4) 193 (newSrslP r s l nd2 nd5 nd6 nd7), row (nd9) 71 #[.iface (tgTy k1 false) (.pointer (some ⟨nd10, 0, none⟩)), .int .i32 loc, .slice (some ⟨nd13, 0, none⟩) n n, .int .i32 0, .int .u8 0, .int .u8 0, .bool false, .bool false], row (B19) 35 #[.iface (dtT k1) (.pointer (some ⟨dtB k1 nd11 nd12, 0, none⟩)), .int .i32 loc], ((nd5, .map #[] 0) : Rw), row (nd13) 35 ((args loc nd14 n).toArray), row (nd6) 203 #[.pointer none, .pointer none, .slice none 0 0, .map none, .slice none 0 0, .slice none 0 0, .int .i32 0, .int .i32 0, .int .u32 0, .int .u32 0, .bool false, .bool false, .bool false, .bool false, .int .u8 0, .int .u8 6], row (nd7) 25 #[.int .u32 0, .int .u32 0], row (nd2) 56 (full symZ (symL ([sy ⟨#[70, 111, 111]⟩ 0])) 0)] X := by
    rw [← hW]
    exact (hO).alloc' _ (u23.heap.size) (by simp)
  clear hW hO
  generalize u23.heap.size = B24 at hN ⊢
  have hO := hN
  clear hN
  have hL := hO.apart
  have hX := hO.apartX
  have HL := Lib.hid hL
  have HX := Lib.hid hX
  clear hL hX
  have hP9 := hO.pick [2, 5] (by decide)
  have h9_hsz : (#[] : Array MapEntry).size = 0 := rfl
  have T9 := impCnt nd4 (newSrslP r s l nd2 nd5 nd6 nd7) nd5 #[] 0 0 _ _ _ hP9 (newSrsl_117 r s l nd2 nd5 nd6 nd7) h9_hsz
  refine Calls.mono T9 ?_
  clear hP9 T9 h9_hsz
  rintro e u26 ⟨rfl, hQ⟩
  have hN : Own w0 u26 [row (nd4) 193 (newSrslP r s l nd2 nd5 nd6 nd7), ((nd5, .map #[] 0) : Rw), row (B24) 35 #[.iface (dtT k1) (.pointer (some ⟨dtB k1 nd11 nd12, 0, none⟩)), .int .i32 loc], row (nd10) (tgT k1 false) (tgC k1 false name loc im nd11 nd12), row (nd9) 71 #[.iface (tgTy k1 false) (.pointer (some ⟨nd10, 0, none⟩)), .int .i32 loc, .slice (some ⟨nd13, 0, none⟩) n n, .int .i32 0, .int .u8 0, .int .u8 0, .bool false, .bool false], row (B19) 35 #[.iface (dtT k1) (.pointer (some ⟨dtB k1 nd11 nd12, 0, none⟩)), .int .i32 loc], row (nd13) 35 ((args loc nd14 n).toArray), row (nd6) 203 #[.pointer none, .pointer none, .slice none 0 0, .map none, .slice none 0 0, .slice none 0 0, .int .i32 0, .int .i32 0, .int .u32 0, .int .u32 0, .bool false, .bool false, .bool false, .bool false, .int .u8 0, .int .u8 6], row (nd7) 25 #[.int .u32 0, .int .u32 0], row (nd2) 56 (full symZ (symL ([sy ⟨#[70, 111, 111]⟩ 0])) 0)] X := hQ.back HL.out HX.out [0, 1, 3, 4, 6, 7, 8, 9] (by decide) (by decide)
  clear hQ HL HX hO
  have hO := hN
  clear hN
  obtain ⟨c9_2_0, c9_2_1, lt9_2, y9_2, -⟩ := hO.k2 2 rfl
  obtain ⟨c9_4_0, c9_4_1, c9_4_2, c9_4_3, c9_4_4, c9_4_5, c9_4_6, c9_4_7, lt9_4, y9_4, -⟩ := hO.k8 4 rfl
  obtain ⟨c9_5_0, c9_5_1, lt9_5, y9_5, -⟩ := hO.k2 5 rfl
  obtain ⟨c9_8_0, c9_8_1, lt9_8, y9_8, -⟩ := hO.k2 8 rfl
  have HO := Lib.hid hO
  clear hO
  go_wp2_with (first | (with_reducible refine Own.stay (fn := Tryd.f6) ?_) | (first | (go_at_call 27; go_in)))
  try with_reducible refine Own.Stay.mk ?_
  have hO := HO.out
  clear HO c9_2_0 c9_2_1 lt9_2 y9_2 c9_4_0 c9_4_1 c9_4_2 c9_4_3 c9_4_4 c9_4_5 c9_4_6 c9_4_7 lt9_4 y9_4 c9_5_0 c9_5_1 lt9_5 y9_5 c9_8_0 c9_8_1 lt9_8 y9_8
  have hL := hO.apart
  have hX := hO.apartX
  have HL := Lib.hid hL
  have HX := Lib.hid hX
  clear hL hX
  have hP9 := hO.pick [0, 1] (by decide)
  have h9_hno : Instr.findNow .string (.string (⟨#[95, 95, 115, 117, 112, 101, 114, 71, 101, 116]⟩ : ByteArray)) (#[] : Array MapEntry).toList 0 = some none := (by kernel_rfl)
  have T9 := impRefN nd4 (newSrslP r s l nd2 nd5 nd6 nd7) nd5 #[] 0 ⟨#[95, 95, 115, 117, 112, 101, 114, 71, 101, 116]⟩ _ _ _ hP9 (newSrsl_117 r s l nd2 nd5 nd6 nd7) h9_hno
  refine Calls.mono T9 ?_
  clear hP9 T9 h9_hno
  rintro e u27 ⟨rfl, hQ⟩
  have hN : Own w0 u27 [row (nd4) 193 (newSrslP r s l nd2 nd5 nd6 nd7), ((nd5, .map #[] 0) : Rw), row (B24) 35 #[.iface (dtT k1) (.pointer (some ⟨dtB k1 nd11 nd12, 0, none⟩)), .int .i32 loc], row (nd10) (tgT k1 false) (tgC k1 false name loc im nd11 nd12), row (nd9) 71 #[.iface (tgTy k1 false) (.pointer (some ⟨nd10, 0, none⟩)), .int .i32 loc, .slice (some ⟨nd13, 0, none⟩) n n, .int .i32 0, .int .u8 0, .int .u8 0, .bool false, .bool false], row (B19) 35 #[.iface (dtT k1) (.pointer (some ⟨dtB k1 nd11 nd12, 0, none⟩)), .int .i32 loc], row (nd13) 35 ((args loc nd14 n).toArray), row (nd6) 203 #[.pointer none, .pointer none, .slice none 0 0, .map none, .slice none 0 0, .slice none 0 0, .int .i32 0, .int .i32 0, .int .u32 0, .int .u32 0, .bool false, .bool false, .bool false, .bool false, .int .u8 0, .int .u8 6], row (nd7) 25 #[.int .u32 0, .int .u32 0], row (nd2) 56 (full symZ (symL ([sy ⟨#[70, 111, 111]⟩ 0])) 0)] X := hQ.back HL.out HX.out [2, 3, 4, 5, 6, 7, 8, 9] (by decide) (by decide)
  clear hQ HL HX hO
  have hO := hN
  clear hN
  obtain ⟨c9_2_0, c9_2_1, lt9_2, y9_2, -⟩ := hO.k2 2 rfl
  obtain ⟨c9_4_0, c9_4_1, c9_4_2, c9_4_3, c9_4_4, c9_4_5, c9_4_6, c9_4_7, lt9_4, y9_4, -⟩ := hO.k8 4 rfl
  obtain ⟨c9_5_0, c9_5_1, lt9_5, y9_5, -⟩ := hO.k2 5 rfl
  obtain ⟨c9_8_0, c9_8_1, lt9_8, y9_8, -⟩ := hO.k2 8 rfl
  have HO := Lib.hid hO
  clear hO
  go_wp2_with (first | (with_reducible refine Own.stay (fn := Tryd.f6) ?_) | (first | (go_at_call 27; go_in)))
  try with_reducible refine Own.Stay.mk ?_
  have hO := HO.out
  clear HO c9_2_0 c9_2_1 lt9_2 y9_2 c9_4_0 c9_4_1 c9_4_2 c9_4_3 c9_4_4 c9_4_5 c9_4_6 c9_4_7 lt9_4 y9_4 c9_5_0 c9_5_1 lt9_5 y9_5 c9_8_0 c9_8_1 lt9_8 y9_8
  generalize hW : World.alloc _ _ = W29
  have hN : Own w0 W29 [row (u27.heap.size) 25 #[.int .u32 0, .int .u32 0], row (nd4) 193 (newSrslP r s l nd2 nd5 nd6 nd7), ((nd5, .map #[] 0) : Rw), row (B24) 35 #[.iface (dtT k1) (.pointer (some ⟨dtB k1 nd11 nd12, 0, none⟩)), .int .i32 loc], row (nd10) (tgT k1 false) (tgC k1 false name loc im nd11 nd12), row (nd9) 71 #[.iface (tgTy k1 false) (.pointer (some ⟨nd10, 0, none⟩)), .int .i32 loc, .slice (some ⟨nd13, 0, none⟩) n n, .int .i32 0, .int .u8 0, .int .u8 0, .bool false, .bool false], row (B19) 35 #[.iface (dtT k1) (.pointer (some ⟨dtB k1 nd11 nd12, 0, none⟩)), .int .i32 loc], row (nd13) 35 ((args loc nd14 n).toArray), row (nd6) 203 #[.pointer none, .pointer none, .slice none 0 0, .map none, .slice none 0 0, .slice none 0 0, .int .i32 0, .int .i32 0, .int .u32 0, .int .u32 0, .bool false, .bool false, .bool false, .bool false, .int .u8 0, .int .u8 6], row (nd7) 25 #[.int .u32 0, .int .u32 0], row (nd2) 56 (full symZ (symL ([sy ⟨#[70, 111, 111]⟩ 0])) 0)] X := by
    rw [← hW]
    exact (hO).alloc' _ (u27.heap.size) (by simp)
  clear hW hO
  generalize u27.heap.size = B28 at hN ⊢
  have hO := hN
  clear hN
  refine bodyPost_ret (v := .bool true) ?_ rfl ⟨rfl, hO.sub [] (by decide)⟩
  simp [results, Tryd.results6, go_sem]
end Go.Proofs.YtkhmjppfogppoaaDoor.Use
