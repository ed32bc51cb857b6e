/- The law on a super call lowered twice, walked. No condition. -/
import Derived.Test.YtkhmjppfogppoaaDoorDoorC
import Derived.Test.YtkhmjppfogppoaaDoorReadC
import Derived.Test.YtkhmjppfogppoaaDoorNewL
import Derived.Test.YtkhmjppfogppoaaDoorUniG
import Derived.Test.YtkhmjppfogppoaaDoorKit2
import Derived.Test.YtkhmjppfogppoaaDoorKit
import Derived.Test.YtkhmjppfogppoaaDoorLoop
import Derived.Test.YtkhmjppfogppoaaDoorLive
import Derived.Test.YtkhmjppfogppoaaDoorApp
import Derived.Test.YtkhmjppfogppoaaDoorOwnK
import Derived.Test.YtkhmjppfogppoaaDoorOwn
import Derived.Test.YtkhmjppfogppoaaDoorDeepCells
import Derived.Test.YtkhmjppfogppoaaDoorRows
import Derived.Test.YtkhmjppfogppoaaDoorUse
namespace Go.Proofs.YtkhmjppfogppoaaDoor.Use
open Go.ChangeShapes Go.WideShapes Go.ChangeAt Go.RowKit Go.Sort Own
set_option linter.unusedVariables false
def law26yPost (kind : Int) (name : ByteArray) (n : Nat) (k0 s r : Bool) (loc im : Int) (w0 : World) (X : Nat → Obj → Prop) (e : Ending) (w' : World) : Prop :=
  e = .returned (.bool true) ∧ Own w0 w' [] X
set_option maxRecDepth 100000 in
set_option maxHeartbeats 1000000 in
theorem law26y (kind : Int) (name : ByteArray) (n : Nat) (k0 s r : Bool) (loc im : Int) (w0 w : World) (X : Nat → Obj → Prop) (hO : Own w0 w [] X) (hkd : kind.tmod 4 = kn false k0) (hlen : name.size ≤ 65536) (hn : n ≤ 4096) (hg0 : w0.cell? ⟨0, 0, none⟩ = some (.int .u32 4294967295)) (hg1 : w0.cell? ⟨0, 1, none⟩ = some (.int .u32 4294967295)) :
    Calls Tryd.prog 6 #[.int .u8 kind, .string name, .int .i64 (n : Int), .bool true, .bool s, .bool r, .int .i32 loc, .int .u32 im] w (law26yPost kind name n k0 s r loc im w0 X) := by
  go_enter Tryd.func6, Tryd.ntmps6
  have hl9 : (name.size : Int) ≤ 65536 := by omega
  have hn9 : (n : Int) ≤ 4096 := by omega
  go_wp2_with (first | (with_reducible refine Own.stay (fn := Tryd.f6) ?_) | (first | (go_at_call 27; go_in)))
  try with_reducible refine Own.Stay.mk ?_
  have hL := hO.apart
  have hX := hO.apartX
  have HL := Lib.hid hL
  have HX := Lib.hid hX
  clear hL hX
  have hP9 := hO.pick [] (by decide)
  have T9 := classSyms  _ _ _ hP9 hg0 hg1
  refine Calls.mono T9 ?_
  clear hP9 T9
  rintro e u1 ⟨nd2, rfl, hQ⟩
  have hN : Own w0 u1 [row (nd2) 56 (full symZ (symL ([sy ⟨#[70, 111, 111]⟩ 0])) 0)] X := hQ.back HL.out HX.out [] (by decide) (by decide)
  clear hQ HL HX hO
  have hO := hN
  clear hN
  go_wp2_with (first | (with_reducible refine Own.stay (fn := Tryd.f6) ?_) | (first | (go_at_call 27; go_in)))
  try with_reducible refine Own.Stay.mk ?_
  have hL := hO.apart
  have hX := hO.apartX
  have HL := Lib.hid hL
  have HX := Lib.hid hX
  clear hL hX
  have hP9 := hO.pick [] (by decide)
  have T9 := newSrsl r s true nd2 _ _ _ hP9 
  refine Calls.mono T9 ?_
  clear hP9 T9
  rintro e u3 ⟨nd4, nd5, nd6, nd7, rfl, hQ⟩
  have hN : Own w0 u3 [row (nd4) 193 (newSrslP r s true nd2 nd5 nd6 nd7), ((nd5, .map #[] 0) : Rw), row (nd6) 203 #[.pointer none, .pointer none, .slice none 0 0, .map none, .slice none 0 0, .slice none 0 0, .int .i32 0, .int .i32 0, .int .u32 0, .int .u32 0, .bool false, .bool false, .bool false, .bool false, .int .u8 0, .int .u8 6], row (nd7) 25 #[.int .u32 0, .int .u32 0], row (nd2) 56 (full symZ (symL ([sy ⟨#[70, 111, 111]⟩ 0])) 0)] X := hQ.back HL.out HX.out [0] (by decide) (by decide)
  clear hQ HL HX hO
  have hO := hN
  clear hN
  obtain ⟨c9_3_0, c9_3_1, lt9_3, y9_3, -⟩ := hO.k2 3 rfl
  have HO := Lib.hid hO
  clear hO
  go_wp2_with (first | (with_reducible refine Own.stay (fn := Tryd.f6) ?_) | (first | (go_at_call 27; go_in)))
  try with_reducible refine Own.Stay.mk ?_
  have hO := HO.out
  clear HO c9_3_0 c9_3_1 lt9_3 y9_3
  have hL := hO.apart
  have hX := hO.apartX
  have HL := Lib.hid hL
  have HX := Lib.hid hX
  clear hL hX
  have hP9 := hO.pick [] (by decide)
  have T9 := buildCall kind name n loc im false k0 _ _ _ hP9 hkd hn
  refine Calls.mono T9 ?_
  clear hP9 T9
  rintro e u8 ⟨nd9, nd10, nd11, nd12, nd13, nd14, rfl, hQ⟩
  have hN : Own w0 u8 [row (nd9) 71 #[.iface (tgTy false k0) (.pointer (some ⟨nd10, 0, none⟩)), .int .i32 loc, .slice (some ⟨nd13, 0, none⟩) n n, .int .i32 0, .int .u8 0, .int .u8 0, .bool false, .bool false], row (nd10) (tgT false k0) (tgC false k0 name loc im nd11 nd12), row (nd13) 35 ((args loc nd14 n).toArray), row (nd4) 193 (newSrslP r s true nd2 nd5 nd6 nd7), ((nd5, .map #[] 0) : Rw), row (nd6) 203 #[.pointer none, .pointer none, .slice none 0 0, .map none, .slice none 0 0, .slice none 0 0, .int .i32 0, .int .i32 0, .int .u32 0, .int .u32 0, .bool false, .bool false, .bool false, .bool false, .int .u8 0, .int .u8 6], row (nd7) 25 #[.int .u32 0, .int .u32 0], row (nd2) 56 (full symZ (symL ([sy ⟨#[70, 111, 111]⟩ 0])) 0)] X := hQ.back HL.out HX.out [0, 1, 2, 3, 4] (by decide) (by decide)
  clear hQ HL HX hO
  have hO := hN
  clear hN
  obtain ⟨c9_0_0, c9_0_1, c9_0_2, c9_0_3, c9_0_4, c9_0_5, c9_0_6, c9_0_7, lt9_0, y9_0, -⟩ := hO.k8 0 rfl
  obtain ⟨c9_6_0, c9_6_1, lt9_6, y9_6, -⟩ := hO.k2 6 rfl
  have HO := Lib.hid hO
  clear hO
  go_wp2_with (first | (with_reducible refine Own.stay (fn := Tryd.f6) ?_) | (first | (go_at_call 27; go_in)))
  try with_reducible refine Own.Stay.mk ?_
  have hO := HO.out
  clear HO c9_0_0 c9_0_1 c9_0_2 c9_0_3 c9_0_4 c9_0_5 c9_0_6 c9_0_7 lt9_0 y9_0 c9_6_0 c9_6_1 lt9_6 y9_6
  have hL := hO.apart
  have hX := hO.apartX
  have HL := Lib.hid hL
  have HX := Lib.hid hX
  clear hL hX
  have hP9 := hO.pick [3, 7, 4, 5, 6, 0, 1, 2] (by decide)
  have T9 := dlowYes nd4 (newSrslP r s true nd2 nd5 nd6 nd7) nd2 0 nd5 nd6 #[.pointer none, .pointer none, .slice none 0 0, .map none, .slice none 0 0, .slice none 0 0, .int .i32 0, .int .i32 0, .int .u32 0, .int .u32 0, .bool false, .bool false, .bool false, .bool false, .int .u8 0, .int .u8 6] nd7 loc r s k0 name im nd11 nd12 nd9 nd10 nd13 nd14 n _ _ _ hP9 (newSrsl_350 r s true nd2 nd5 nd6 nd7) (newSrsl_32 r s true nd2 nd5 nd6 nd7) (newSrsl_105 r s true nd2 nd5 nd6 nd7) (newSrsl_66 r s true nd2 nd5 nd6 nd7) (newSrsl_117 r s true nd2 nd5 nd6 nd7) (newSrsl_187 r s true nd2 nd5 nd6 nd7) (newSrsl_97 r s true nd2 nd5 nd6 nd7) (newSrsl_95 r s true nd2 nd5 nd6 nd7) (newSrsl_96 r s true nd2 nd5 nd6 nd7) (newSrsl_106 r s true nd2 nd5 nd6 nd7) rfl (newSrsl_338 r s true nd2 nd5 nd6 nd7) hn hlen hg0 hg1
  refine Calls.mono T9 ?_
  clear hP9 T9
  rintro e u15 ⟨nd16, nd17, nd18, nd19, nd20, nd21, nd22, nd23, nd24, nd25, nd26, nd27, nd28, nd29, nd30, rfl, hQ⟩
  have hN : Own w0 u15 [row (nd4) 193 ((newSrslP r s true nd2 nd5 nd6 nd7).setIfInBounds 106 (.slice (some ⟨nd22, 0, none⟩) 2 (2 + nd23))), row (nd22) 56 (full symZ (symL ([sy ⟨#[70, 111, 111]⟩ (uz r 0), sy ⟨#[95, 95, 115, 117, 112, 101, 114, 71, 101, 116]⟩ 1])) nd23), ((nd5, .map #[⟨.string ⟨#[95, 95, 115, 117, 112, 101, 114, 71, 101, 116]⟩, .agg #[.int .i32 loc, .int .u32 0, .int .u32 1], 0⟩] 1) : Rw), row (nd6) 203 #[.pointer none, .pointer none, .slice none 0 0, .map none, .slice none 0 0, .slice (some ⟨nd24, 0, none⟩) 1 (1 + nd25), .int .i32 0, .int .i32 0, .int .u32 0, .int .u32 0, .bool false, .bool false, .bool false, .bool false, .int .u8 0, .int .u8 6], row (nd24) 25 (full refZ [.int .u32 0, .int .u32 1] nd25), row (nd7) 25 #[.int .u32 0, .int .u32 0], row (nd17) 211 #[.int .u32 0, .int .u32 1, .bool false, .bool false, .bool false], row (nd16) 71 #[.iface 209 (.pointer (some ⟨nd17, 0, none⟩)), .int .i32 loc, .slice (some ⟨nd18, 0, none⟩) 3 3, .int .i32 0, .int .u8 0, .int .u8 0, .bool false, .bool false], row (nd18) 35 #[.iface (clsTy s) (.pointer (some ⟨nd19, 0, none⟩)), .int .i32 loc, .iface (thsTy r) (.pointer (some ⟨nd21, 0, none⟩)), .int .i32 loc, .iface (kyT k0) (.pointer (some ⟨nd30, 0, none⟩)), .int .i32 loc], row (nd19) (clsT s) (clsC s loc nd20), row (nd20) (xtrT s) (xtrC s loc nd19), row (nd21) (thsT r) (thsC r), row (nd9) 71 #[.iface 225 (.pointer (some ⟨nd26, 0, none⟩)), .int .i32 loc, .slice (some ⟨nd28, 0, none⟩) (1 + n) (1 + n + nd29), .int .i32 0, .int .u8 0, .int .u8 0, .bool false, .bool false], row (nd26) 228 #[.iface 65 (.pointer (some ⟨nd16, 0, none⟩)), .int .i32 loc, .string ⟨#[99, 97, 108, 108]⟩, .int .i32 loc, .int .u8 0, .bool false, .bool false, .bool false], row (nd28) 35 (full exprZ ([.iface 237 (.pointer (some ⟨nd27, 0, none⟩)), .int .i32 loc] ++ (args loc nd14 n)) nd29)] X := hQ.back HL.out HX.out [] (by decide) (by decide)
  clear hQ HL HX hO
  have hO := hN
  clear hN
  obtain ⟨c9_5_0, c9_5_1, lt9_5, y9_5, -⟩ := hO.k2 5 rfl
  obtain ⟨c9_6_0, c9_6_1, c9_6_2, c9_6_3, c9_6_4, lt9_6, y9_6, -⟩ := hO.k5 6 rfl
  obtain ⟨c9_7_0, c9_7_1, c9_7_2, c9_7_3, c9_7_4, c9_7_5, c9_7_6, c9_7_7, lt9_7, y9_7, -⟩ := hO.k8 7 rfl
  obtain ⟨c9_8_0, c9_8_1, c9_8_2, c9_8_3, c9_8_4, c9_8_5, lt9_8, y9_8, -⟩ := hO.k6 8 rfl
  obtain ⟨c9_12_0, c9_12_1, c9_12_2, c9_12_3, c9_12_4, c9_12_5, c9_12_6, c9_12_7, lt9_12, y9_12, -⟩ := hO.k8 12 rfl
  obtain ⟨c9_13_0, c9_13_1, c9_13_2, c9_13_3, c9_13_4, c9_13_5, c9_13_6, c9_13_7, lt9_13, y9_13, -⟩ := hO.k8 13 rfl
  have HO := Lib.hid hO
  clear hO
  go_wp2_with (first | (with_reducible refine Own.stay (fn := Tryd.f6) ?_) | (first | (go_at_call 27; go_in)))
  try with_reducible refine Own.Stay.mk ?_
  have hO := HO.out
  clear HO c9_5_0 c9_5_1 lt9_5 y9_5 c9_6_0 c9_6_1 c9_6_2 c9_6_3 c9_6_4 lt9_6 y9_6 c9_7_0 c9_7_1 c9_7_2 c9_7_3 c9_7_4 c9_7_5 c9_7_6 c9_7_7 lt9_7 y9_7 c9_8_0 c9_8_1 c9_8_2 c9_8_3 c9_8_4 c9_8_5 lt9_8 y9_8 c9_12_0 c9_12_1 c9_12_2 c9_12_3 c9_12_4 c9_12_5 c9_12_6 c9_12_7 lt9_12 y9_12 c9_13_0 c9_13_1 c9_13_2 c9_13_3 c9_13_4 c9_13_5 c9_13_6 c9_13_7 lt9_13 y9_13
  have hL := hO.apart
  have hX := hO.apartX
  have HL := Lib.hid hL
  have HX := Lib.hid hX
  clear hL hX
  have hP9 := hO.pick [0] (by decide)
  have T9 := symsO nd4 ((newSrslP r s true nd2 nd5 nd6 nd7).setIfInBounds 106 (.slice (some ⟨nd22, 0, none⟩) 2 (2 + nd23))) nd22 2 (2 + nd23) _ _ _ hP9 (get_set (newSrsl_106 r s true nd2 nd5 nd6 nd7) _)
  refine Calls.mono T9 ?_
  clear hP9 T9
  rintro e u31 ⟨rfl, hQ⟩
  have hN : Own w0 u31 [row (nd4) 193 ((newSrslP r s true nd2 nd5 nd6 nd7).setIfInBounds 106 (.slice (some ⟨nd22, 0, none⟩) 2 (2 + nd23))), row (nd22) 56 (full symZ (symL ([sy ⟨#[70, 111, 111]⟩ (uz r 0), sy ⟨#[95, 95, 115, 117, 112, 101, 114, 71, 101, 116]⟩ 1])) nd23), ((nd5, .map #[⟨.string ⟨#[95, 95, 115, 117, 112, 101, 114, 71, 101, 116]⟩, .agg #[.int .i32 loc, .int .u32 0, .int .u32 1], 0⟩] 1) : Rw), row (nd6) 203 #[.pointer none, .pointer none, .slice none 0 0, .map none, .slice none 0 0, .slice (some ⟨nd24, 0, none⟩) 1 (1 + nd25), .int .i32 0, .int .i32 0, .int .u32 0, .int .u32 0, .bool false, .bool false, .bool false, .bool false, .int .u8 0, .int .u8 6], row (nd24) 25 (full refZ [.int .u32 0, .int .u32 1] nd25), row (nd7) 25 #[.int .u32 0, .int .u32 0], row (nd17) 211 #[.int .u32 0, .int .u32 1, .bool false, .bool false, .bool false], row (nd16) 71 #[.iface 209 (.pointer (some ⟨nd17, 0, none⟩)), .int .i32 loc, .slice (some ⟨nd18, 0, none⟩) 3 3, .int .i32 0, .int .u8 0, .int .u8 0, .bool false, .bool false], row (nd18) 35 #[.iface (clsTy s) (.pointer (some ⟨nd19, 0, none⟩)), .int .i32 loc, .iface (thsTy r) (.pointer (some ⟨nd21, 0, none⟩)), .int .i32 loc, .iface (kyT k0) (.pointer (some ⟨nd30, 0, none⟩)), .int .i32 loc], row (nd19) (clsT s) (clsC s loc nd20), row (nd20) (xtrT s) (xtrC s loc nd19), row (nd21) (thsT r) (thsC r), row (nd9) 71 #[.iface 225 (.pointer (some ⟨nd26, 0, none⟩)), .int .i32 loc, .slice (some ⟨nd28, 0, none⟩) (1 + n) (1 + n + nd29), .int .i32 0, .int .u8 0, .int .u8 0, .bool false, .bool false], row (nd26) 228 #[.iface 65 (.pointer (some ⟨nd16, 0, none⟩)), .int .i32 loc, .string ⟨#[99, 97, 108, 108]⟩, .int .i32 loc, .int .u8 0, .bool false, .bool false, .bool false], row (nd28) 35 (full exprZ ([.iface 237 (.pointer (some ⟨nd27, 0, none⟩)), .int .i32 loc] ++ (args loc nd14 n)) nd29)] X := hQ.back HL.out HX.out [1, 2, 3, 4, 5, 6, 7, 8, 9, 10, 11, 12, 13, 14] (by decide) (by decide)
  clear hQ HL HX hO
  have hO := hN
  clear hN
  obtain ⟨ix9, hix9, hax9, hjx9⟩ := hO.ix
  have ix9_0 : ix9 nd4 = 0 := hjx9 0 _ _ rfl
  have ix9_1 : ix9 nd22 = 1 := hjx9 1 _ _ rfl
  have ix9_2 : ix9 nd5 = 2 := hjx9 2 _ _ rfl
  have ix9_3 : ix9 nd6 = 3 := hjx9 3 _ _ rfl
  have ix9_4 : ix9 nd24 = 4 := hjx9 4 _ _ rfl
  have ix9_5 : ix9 nd7 = 5 := hjx9 5 _ _ rfl
  have ix9_6 : ix9 nd17 = 6 := hjx9 6 _ _ rfl
  have ix9_7 : ix9 nd16 = 7 := hjx9 7 _ _ rfl
  have ix9_8 : ix9 nd18 = 8 := hjx9 8 _ _ rfl
  have ix9_9 : ix9 nd19 = 9 := hjx9 9 _ _ rfl
  have ix9_10 : ix9 nd20 = 10 := hjx9 10 _ _ rfl
  have ix9_11 : ix9 nd21 = 11 := hjx9 11 _ _ rfl
  have ix9_12 : ix9 nd9 = 12 := hjx9 12 _ _ rfl
  have ix9_13 : ix9 nd26 = 13 := hjx9 13 _ _ rfl
  have ix9_14 : ix9 nd28 = 14 := hjx9 14 _ _ rfl
  clear hjx9
  have c9_0_32 : u31.cell? ⟨nd4, 32, none⟩ = some (.bool false) := hO.cell 0 rfl (32) ((get_other (newSrsl_32 r s true nd2 nd5 nd6 nd7) (by omega) _))
  have c9_0_66 : u31.cell? ⟨nd4, 66, none⟩ = some (.int .u32 0) := hO.cell 0 rfl (66) ((get_other (newSrsl_66 r s true nd2 nd5 nd6 nd7) (by omega) _))
  have c9_0_95 : u31.cell? ⟨nd4, 95, none⟩ = some (.bool r) := hO.cell 0 rfl (95) ((get_other (newSrsl_95 r s true nd2 nd5 nd6 nd7) (by omega) _))
  have c9_0_96 : u31.cell? ⟨nd4, 96, none⟩ = some (.bool s) := hO.cell 0 rfl (96) ((get_other (newSrsl_96 r s true nd2 nd5 nd6 nd7) (by omega) _))
  have c9_0_97 : u31.cell? ⟨nd4, 97, none⟩ = some (.pointer (some ⟨nd7, 0, none⟩)) := hO.cell 0 rfl (97) ((get_other (newSrsl_97 r s true nd2 nd5 nd6 nd7) (by omega) _))
  have c9_0_105 : u31.cell? ⟨nd4, 105, none⟩ = some (.pointer none) := hO.cell 0 rfl (105) ((get_other (newSrsl_105 r s true nd2 nd5 nd6 nd7) (by omega) _))
  have c9_0_106 : u31.cell? ⟨nd4, 106, none⟩ = some (.slice (some ⟨nd22, 0, none⟩) 2 (2 + nd23)) := hO.cell 0 rfl (106) ((get_set (newSrsl_106 r s true nd2 nd5 nd6 nd7) _))
  have c9_0_117 : u31.cell? ⟨nd4, 117, none⟩ = some (.map (some nd5)) := hO.cell 0 rfl (117) ((get_other (newSrsl_117 r s true nd2 nd5 nd6 nd7) (by omega) _))
  have c9_0_187 : u31.cell? ⟨nd4, 187, none⟩ = some (.pointer (some ⟨nd6, 0, none⟩)) := hO.cell 0 rfl (187) ((get_other (newSrsl_187 r s true nd2 nd5 nd6 nd7) (by omega) _))
  have c9_0_338 : u31.cell? ⟨nd4, 338, none⟩ = some (.bool true) := hO.cell 0 rfl (338) ((get_other (newSrsl_338 r s true nd2 nd5 nd6 nd7) (by omega) _))
  have c9_0_350 : u31.cell? ⟨nd4, 350, none⟩ = some (.bool false) := hO.cell 0 rfl (350) ((get_other (newSrsl_350 r s true nd2 nd5 nd6 nd7) (by omega) _))
  have lt9_0 : nd4 < u31.heap.size := hO.lt 0 rfl
  have y9_0 : ∀ o, u31.frozen? ⟨nd4, o, none⟩ = false := hO.free 0 rfl
  have c9_1_1 : u31.cell? ⟨nd22, 1, none⟩ = some (.string ⟨#[70, 111, 111]⟩) := hO.cell 1 rfl (1) ((full_at rfl))
  have c9_1_4 : u31.cell? ⟨nd22, 4, none⟩ = some (.int .u32 (uz r 0 : Int)) := hO.cell 1 rfl (4) ((full_at rfl))
  have c9_1_11 : u31.cell? ⟨nd22, 11, none⟩ = some (.string ⟨#[95, 95, 115, 117, 112, 101, 114, 71, 101, 116]⟩) := hO.cell 1 rfl (11) ((full_at rfl))
  have c9_1_14 : u31.cell? ⟨nd22, 14, none⟩ = some (.int .u32 1) := hO.cell 1 rfl (14) ((full_at rfl))
  have lt9_1 : nd22 < u31.heap.size := hO.lt 1 rfl
  have y9_1 : ∀ o, u31.frozen? ⟨nd22, o, none⟩ = false := hO.free 1 rfl
  have pl9_4 : Base.plainAt u31 (nd24) = true := hO.plain 4 rfl
  have c9_4_0 : u31.cell? ⟨nd24, 0, none⟩ = some (.int .u32 0) := hO.cell 4 rfl (0) ((full_at rfl))
  have c9_4_1 : u31.cell? ⟨nd24, 1, none⟩ = some (.int .u32 1) := hO.cell 4 rfl (1) ((full_at rfl))
  have lt9_4 : nd24 < u31.heap.size := hO.lt 4 rfl
  have y9_4 : ∀ o, u31.frozen? ⟨nd24, o, none⟩ = false := hO.free 4 rfl
  obtain ⟨c9_5_0, c9_5_1, lt9_5, y9_5, pl9_5⟩ := hO.k2 5 rfl
  obtain ⟨c9_6_0, c9_6_1, c9_6_2, c9_6_3, c9_6_4, lt9_6, y9_6, -⟩ := hO.k5 6 rfl
  obtain ⟨c9_7_0, c9_7_1, c9_7_2, c9_7_3, c9_7_4, c9_7_5, c9_7_6, c9_7_7, lt9_7, y9_7, pl9_7⟩ := hO.k8 7 rfl
  obtain ⟨c9_8_0, c9_8_1, c9_8_2, c9_8_3, c9_8_4, c9_8_5, lt9_8, y9_8, pl9_8⟩ := hO.k6 8 rfl
  obtain ⟨c9_12_0, c9_12_1, c9_12_2, c9_12_3, c9_12_4, c9_12_5, c9_12_6, c9_12_7, lt9_12, y9_12, pl9_12⟩ := hO.k8 12 rfl
  obtain ⟨c9_13_0, c9_13_1, c9_13_2, c9_13_3, c9_13_4, c9_13_5, c9_13_6, c9_13_7, lt9_13, y9_13, -⟩ := hO.k8 13 rfl
  have pl9_14 : Base.plainAt u31 (nd28) = true := hO.plain 14 rfl
  have HO := Lib.hid hO
  clear hO
  go_wp2_with (first | (with_reducible refine Own.stay (fn := Tryd.f6) ?_) | (first | (go_at_call 27; go_in)))
  try with_reducible refine Own.Stay.mk ?_
  have hO := HO.out
  clear HO hix9 hax9 ix9_0 ix9_1 ix9_2 ix9_3 ix9_4 ix9_5 ix9_6 ix9_7 ix9_8 ix9_9 ix9_10 ix9_11 ix9_12 ix9_13 ix9_14 ix9 c9_0_32 c9_0_66 c9_0_95 c9_0_96 c9_0_97 c9_0_105 c9_0_106 c9_0_117 c9_0_187 c9_0_338 c9_0_350 lt9_0 y9_0 c9_1_1 c9_1_4 c9_1_11 c9_1_14 lt9_1 y9_1 pl9_4 c9_4_0 c9_4_1 lt9_4 y9_4 c9_5_0 c9_5_1 lt9_5 y9_5 pl9_5 c9_6_0 c9_6_1 c9_6_2 c9_6_3 c9_6_4 lt9_6 y9_6 c9_7_0 c9_7_1 c9_7_2 c9_7_3 c9_7_4 c9_7_5 c9_7_6 c9_7_7 lt9_7 y9_7 pl9_7 c9_8_0 c9_8_1 c9_8_2 c9_8_3 c9_8_4 c9_8_5 lt9_8 y9_8 pl9_8 c9_12_0 c9_12_1 c9_12_2 c9_12_3 c9_12_4 c9_12_5 c9_12_6 c9_12_7 lt9_12 y9_12 pl9_12 c9_13_0 c9_13_1 c9_13_2 c9_13_3 c9_13_4 c9_13_5 c9_13_6 c9_13_7 lt9_13 y9_13 pl9_14
  have hL := hO.apart
  have hX := hO.apartX
  have HL := Lib.hid hL
  have HX := Lib.hid hX
  clear hL hX
  have hP9 := hO.pick [0, 2] (by decide)
  have h9_hsz : (#[⟨.string ⟨#[95, 95, 115, 117, 112, 101, 114, 71, 101, 116]⟩, .agg #[.int .i32 loc, .int .u32 0, .int .u32 1], 0⟩] : Array MapEntry).size = 1 := rfl
  have T9 := impCnt nd4 ((newSrslP r s true nd2 nd5 nd6 nd7).setIfInBounds 106 (.slice (some ⟨nd22, 0, none⟩) 2 (2 + nd23))) nd5 #[⟨.string ⟨#[95, 95, 115, 117, 112, 101, 114, 71, 101, 116]⟩, .agg #[.int .i32 loc, .int .u32 0, .int .u32 1], 0⟩] 1 1 _ _ _ hP9 (get_other (newSrsl_117 r s true nd2 nd5 nd6 nd7) (by omega) _) h9_hsz
  refine Calls.mono T9 ?_
  clear hP9 T9 h9_hsz
  rintro e u32 ⟨rfl, hQ⟩
  have hN : Own w0 u32 [row (nd4) 193 ((newSrslP r s true nd2 nd5 nd6 nd7).setIfInBounds 106 (.slice (some ⟨nd22, 0, none⟩) 2 (2 + nd23))), ((nd5, .map #[⟨.string ⟨#[95, 95, 115, 117, 112, 101, 114, 71, 101, 116]⟩, .agg #[.int .i32 loc, .int .u32 0, .int .u32 1], 0⟩] 1) : Rw), row (nd22) 56 (full symZ (symL ([sy ⟨#[70, 111, 111]⟩ (uz r 0), sy ⟨#[95, 95, 115, 117, 112, 101, 114, 71, 101, 116]⟩ 1])) nd23), row (nd6) 203 #[.pointer none, .pointer none, .slice none 0 0, .map none, .slice none 0 0, .slice (some ⟨nd24, 0, none⟩) 1 (1 + nd25), .int .i32 0, .int .i32 0, .int .u32 0, .int .u32 0, .bool false, .bool false, .bool false, .bool false, .int .u8 0, .int .u8 6], row (nd24) 25 (full refZ [.int .u32 0, .int .u32 1] nd25), row (nd7) 25 #[.int .u32 0, .int .u32 0], row (nd17) 211 #[.int .u32 0, .int .u32 1, .bool false, .bool false, .bool false], row (nd16) 71 #[.iface 209 (.pointer (some ⟨nd17, 0, none⟩)), .int .i32 loc, .slice (some ⟨nd18, 0, none⟩) 3 3, .int .i32 0, .int .u8 0, .int .u8 0, .bool false, .bool false], row (nd18) 35 #[.iface (clsTy s) (.pointer (some ⟨nd19, 0, none⟩)), .int .i32 loc, .iface (thsTy r) (.pointer (some ⟨nd21, 0, none⟩)), .int .i32 loc, .iface (kyT k0) (.pointer (some ⟨nd30, 0, none⟩)), .int .i32 loc], row (nd19) (clsT s) (clsC s loc nd20), row (nd20) (xtrT s) (xtrC s loc nd19), row (nd21) (thsT r) (thsC r), row (nd9) 71 #[.iface 225 (.pointer (some ⟨nd26, 0, none⟩)), .int .i32 loc, .slice (some ⟨nd28, 0, none⟩) (1 + n) (1 + n + nd29), .int .i32 0, .int .u8 0, .int .u8 0, .bool false, .bool false], row (nd26) 228 #[.iface 65 (.pointer (some ⟨nd16, 0, none⟩)), .int .i32 loc, .string ⟨#[99, 97, 108, 108]⟩, .int .i32 loc, .int .u8 0, .bool false, .bool false, .bool false], row (nd28) 35 (full exprZ ([.iface 237 (.pointer (some ⟨nd27, 0, none⟩)), .int .i32 loc] ++ (args loc nd14 n)) nd29)] X := hQ.back HL.out HX.out [1, 3, 4, 5, 6, 7, 8, 9, 10, 11, 12, 13, 14] (by decide) (by decide)
  clear hQ HL HX hO
  have hO := hN
  clear hN
  obtain ⟨c9_5_0, c9_5_1, lt9_5, y9_5, -⟩ := hO.k2 5 rfl
  obtain ⟨c9_6_0, c9_6_1, c9_6_2, c9_6_3, c9_6_4, lt9_6, y9_6, -⟩ := hO.k5 6 rfl
  obtain ⟨c9_7_0, c9_7_1, c9_7_2, c9_7_3, c9_7_4, c9_7_5, c9_7_6, c9_7_7, lt9_7, y9_7, -⟩ := hO.k8 7 rfl
  obtain ⟨c9_8_0, c9_8_1, c9_8_2, c9_8_3, c9_8_4, c9_8_5, lt9_8, y9_8, -⟩ := hO.k6 8 rfl
  obtain ⟨c9_12_0, c9_12_1, c9_12_2, c9_12_3, c9_12_4, c9_12_5, c9_12_6, c9_12_7, lt9_12, y9_12, -⟩ := hO.k8 12 rfl
  obtain ⟨c9_13_0, c9_13_1, c9_13_2, c9_13_3, c9_13_4, c9_13_5, c9_13_6, c9_13_7, lt9_13, y9_13, -⟩ := hO.k8 13 rfl
  have HO := Lib.hid hO
  clear hO
  go_wp2_with (first | (with_reducible refine Own.stay (fn := Tryd.f6) ?_) | (first | (go_at_call 27; go_in)))
  try with_reducible refine Own.Stay.mk ?_
  have hO := HO.out
  clear HO c9_5_0 c9_5_1 lt9_5 y9_5 c9_6_0 c9_6_1 c9_6_2 c9_6_3 c9_6_4 lt9_6 y9_6 c9_7_0 c9_7_1 c9_7_2 c9_7_3 c9_7_4 c9_7_5 c9_7_6 c9_7_7 lt9_7 y9_7 c9_8_0 c9_8_1 c9_8_2 c9_8_3 c9_8_4 c9_8_5 lt9_8 y9_8 c9_12_0 c9_12_1 c9_12_2 c9_12_3 c9_12_4 c9_12_5 c9_12_6 c9_12_7 lt9_12 y9_12 c9_13_0 c9_13_1 c9_13_2 c9_13_3 c9_13_4 c9_13_5 c9_13_6 c9_13_7 lt9_13 y9_13
  have hL := hO.apart
  have hX := hO.apartX
  have HL := Lib.hid hL
  have HX := Lib.hid hX
  clear hL hX
  have hP9 := hO.pick [13] (by decide)
  have T9 := dotOf nd26 65 nd16 loc ⟨#[99, 97, 108, 108]⟩ loc loc _ _ _ hP9 
  refine Calls.mono T9 ?_
  clear hP9 T9
  rintro e u33 ⟨rfl, hQ⟩
  have hN : Own w0 u33 [row (nd26) 228 #[.iface 65 (.pointer (some ⟨nd16, 0, none⟩)), .int .i32 loc, .string ⟨#[99, 97, 108, 108]⟩, .int .i32 loc, .int .u8 0, .bool false, .bool false, .bool false], row (nd4) 193 ((newSrslP r s true nd2 nd5 nd6 nd7).setIfInBounds 106 (.slice (some ⟨nd22, 0, none⟩) 2 (2 + nd23))), ((nd5, .map #[⟨.string ⟨#[95, 95, 115, 117, 112, 101, 114, 71, 101, 116]⟩, .agg #[.int .i32 loc, .int .u32 0, .int .u32 1], 0⟩] 1) : Rw), row (nd22) 56 (full symZ (symL ([sy ⟨#[70, 111, 111]⟩ (uz r 0), sy ⟨#[95, 95, 115, 117, 112, 101, 114, 71, 101, 116]⟩ 1])) nd23), row (nd6) 203 #[.pointer none, .pointer none, .slice none 0 0, .map none, .slice none 0 0, .slice (some ⟨nd24, 0, none⟩) 1 (1 + nd25), .int .i32 0, .int .i32 0, .int .u32 0, .int .u32 0, .bool false, .bool false, .bool false, .bool false, .int .u8 0, .int .u8 6], row (nd24) 25 (full refZ [.int .u32 0, .int .u32 1] nd25), row (nd7) 25 #[.int .u32 0, .int .u32 0], row (nd17) 211 #[.int .u32 0, .int .u32 1, .bool false, .bool false, .bool false], row (nd16) 71 #[.iface 209 (.pointer (some ⟨nd17, 0, none⟩)), .int .i32 loc, .slice (some ⟨nd18, 0, none⟩) 3 3, .int .i32 0, .int .u8 0, .int .u8 0, .bool false, .bool false], row (nd18) 35 #[.iface (clsTy s) (.pointer (some ⟨nd19, 0, none⟩)), .int .i32 loc, .iface (thsTy r) (.pointer (some ⟨nd21, 0, none⟩)), .int .i32 loc, .iface (kyT k0) (.pointer (some ⟨nd30, 0, none⟩)), .int .i32 loc], row (nd19) (clsT s) (clsC s loc nd20), row (nd20) (xtrT s) (xtrC s loc nd19), row (nd21) (thsT r) (thsC r), row (nd9) 71 #[.iface 225 (.pointer (some ⟨nd26, 0, none⟩)), .int .i32 loc, .slice (some ⟨nd28, 0, none⟩) (1 + n) (1 + n + nd29), .int .i32 0, .int .u8 0, .int .u8 0, .bool false, .bool false], row (nd28) 35 (full exprZ ([.iface 237 (.pointer (some ⟨nd27, 0, none⟩)), .int .i32 loc] ++ (args loc nd14 n)) nd29)] X := hQ.back HL.out HX.out [0, 1, 2, 3, 4, 5, 6, 7, 8, 9, 10, 11, 12, 14] (by decide) (by decide)
  clear hQ HL HX hO
  have hO := hN
  clear hN
  obtain ⟨c9_0_0, c9_0_1, c9_0_2, c9_0_3, c9_0_4, c9_0_5, c9_0_6, c9_0_7, lt9_0, y9_0, -⟩ := hO.k8 0 rfl
  obtain ⟨c9_6_0, c9_6_1, lt9_6, y9_6, -⟩ := hO.k2 6 rfl
  obtain ⟨c9_7_0, c9_7_1, c9_7_2, c9_7_3, c9_7_4, lt9_7, y9_7, -⟩ := hO.k5 7 rfl
  obtain ⟨c9_8_0, c9_8_1, c9_8_2, c9_8_3, c9_8_4, c9_8_5, c9_8_6, c9_8_7, lt9_8, y9_8, -⟩ := hO.k8 8 rfl
  obtain ⟨c9_9_0, c9_9_1, c9_9_2, c9_9_3, c9_9_4, c9_9_5, lt9_9, y9_9, -⟩ := hO.k6 9 rfl
  obtain ⟨c9_13_0, c9_13_1, c9_13_2, c9_13_3, c9_13_4, c9_13_5, c9_13_6, c9_13_7, lt9_13, y9_13, -⟩ := hO.k8 13 rfl
  have HO := Lib.hid hO
  clear hO
  go_wp2_with (first | (with_reducible refine Own.stay (fn := Tryd.f6) ?_) | (first | (go_at_call 27; go_in)))
  try with_reducible refine Own.Stay.mk ?_
  have hO := HO.out
  clear HO c9_0_0 c9_0_1 c9_0_2 c9_0_3 c9_0_4 c9_0_5 c9_0_6 c9_0_7 lt9_0 y9_0 c9_6_0 c9_6_1 lt9_6 y9_6 c9_7_0 c9_7_1 c9_7_2 c9_7_3 c9_7_4 lt9_7 y9_7 c9_8_0 c9_8_1 c9_8_2 c9_8_3 c9_8_4 c9_8_5 c9_8_6 c9_8_7 lt9_8 y9_8 c9_9_0 c9_9_1 c9_9_2 c9_9_3 c9_9_4 c9_9_5 lt9_9 y9_9 c9_13_0 c9_13_1 c9_13_2 c9_13_3 c9_13_4 c9_13_5 c9_13_6 c9_13_7 lt9_13 y9_13
  generalize hW : World.alloc _ _ = W35
  have hN : Own w0 W35 [row (u33.heap.size) 35 #[.iface 65 (.pointer (some ⟨nd16, 0, none⟩)), .int .i32 loc], row (nd26) 228 #[.iface 65 (.pointer (some ⟨nd16, 0, none⟩)), .int .i32 loc, .string ⟨#[99, 97, 108, 108]⟩, .int .i32 loc, .int .u8 0, .bool false, .bool false, .bool false], row (nd4) 193 ((newSrslP r s true nd2 nd5 nd6 nd7).setIfInBounds 106 (.slice (some ⟨nd22, 0, none⟩) 2 (2 + nd23))), ((nd5, .map #[⟨.string ⟨#[95, 95, 115, 117, 112, 101, 114, 71, 101, 116]⟩, .agg #[.int .i32 loc, .int .u32 0, .int .u32 1], 0⟩] 1) : Rw), row (nd22) 56 (full symZ (symL ([sy ⟨#[70, 111, 111]⟩ (uz r 0), sy ⟨#[95, 95, 115, 117, 112, 101, 114, 71, 101, 116]⟩ 1])) nd23), row (nd6) 203 #[.pointer none, .pointer none, .slice none 0 0, .map none, .slice none 0 0, .slice (some ⟨nd24, 0, none⟩) 1 (1 + nd25), .int .i32 0, .int .i32 0, .int .u32 0, .int .u32 0, .bool false, .bool false, .bool false, .bool false, .int .u8 0, .int .u8 6], row (nd24) 25 (full refZ [.int .u32 0, .int .u32 1] nd25), row (nd7) 25 #[.int .u32 0, .int .u32 0], row (nd17) 211 #[.int .u32 0, .int .u32 1, .bool false, .bool false, .bool false], row (nd16) 71 #[.iface 209 (.pointer (some ⟨nd17, 0, none⟩)), .int .i32 loc, .slice (some ⟨nd18, 0, none⟩) 3 3, .int .i32 0, .int .u8 0, .int .u8 0, .bool false, .bool false], row (nd18) 35 #[.iface (clsTy s) (.pointer (some ⟨nd19, 0, none⟩)), .int .i32 loc, .iface (thsTy r) (.pointer (some ⟨nd21, 0, none⟩)), .int .i32 loc, .iface (kyT k0) (.pointer (some ⟨nd30, 0, none⟩)), .int .i32 loc], row (nd19) (clsT s) (clsC s loc nd20), row (nd20) (xtrT s) (xtrC s loc nd19), row (nd21) (thsT r) (thsC r), row (nd9) 71 #[.iface 225 (.pointer (some ⟨nd26, 0, none⟩)), .int .i32 loc, .slice (some ⟨nd28, 0, none⟩) (1 + n) (1 + n + nd29), .int .i32 0, .int .u8 0, .int .u8 0, .bool false, .bool false], row (nd28) 35 (full exprZ ([.iface 237 (.pointer (some ⟨nd27, 0, none⟩)), .int .i32 loc] ++ (args loc nd14 n)) nd29)] X := by
    rw [← hW]
    exact (hO).alloc' _ (u33.heap.size) (by simp)
  clear hW hO
  generalize u33.heap.size = B34 at hN ⊢
  have hO := hN
  clear hN
  have hL := hO.apart
  have hX := hO.apartX
  have HL := Lib.hid hL
  have HX := Lib.hid hX
  clear hL hX
  have hP9 := hO.pick [2, 14, 1] (by decide)
  have T9 := dlowNK nd4 ((newSrslP r s true nd2 nd5 nd6 nd7).setIfInBounds 106 (.slice (some ⟨nd22, 0, none⟩) 2 (2 + nd23))) nd9 nd28 (1 + n) ((1 + n) + nd29) loc nd26 nd16 true _ _ _ hP9 (get_other (newSrsl_338 r s true nd2 nd5 nd6 nd7) (by omega) _)
  refine Calls.mono T9 ?_
  clear hP9 T9
  rintro e u36 ⟨rfl, hQ⟩
  have hN : Own w0 u36 [row (nd4) 193 ((newSrslP r s true nd2 nd5 nd6 nd7).setIfInBounds 106 (.slice (some ⟨nd22, 0, none⟩) 2 (2 + nd23))), row (nd9) 71 #[.iface 225 (.pointer (some ⟨nd26, 0, none⟩)), .int .i32 loc, .slice (some ⟨nd28, 0, none⟩) (1 + n) ((1 + n) + nd29), .int .i32 0, .int .u8 0, .int .u8 0, .bool false, .bool false], row (nd26) 228 #[.iface 65 (.pointer (some ⟨nd16, 0, none⟩)), .int .i32 loc, .string ⟨#[99, 97, 108, 108]⟩, .int .i32 loc, .int .u8 0, .bool false, .bool false, .bool false], row (B34) 35 #[.iface 65 (.pointer (some ⟨nd16, 0, none⟩)), .int .i32 loc], ((nd5, .map #[⟨.string ⟨#[95, 95, 115, 117, 112, 101, 114, 71, 101, 116]⟩, .agg #[.int .i32 loc, .int .u32 0, .int .u32 1], 0⟩] 1) : Rw), row (nd22) 56 (full symZ (symL ([sy ⟨#[70, 111, 111]⟩ (uz r 0), sy ⟨#[95, 95, 115, 117, 112, 101, 114, 71, 101, 116]⟩ 1])) nd23), row (nd6) 203 #[.pointer none, .pointer none, .slice none 0 0, .map none, .slice none 0 0, .slice (some ⟨nd24, 0, none⟩) 1 (1 + nd25), .int .i32 0, .int .i32 0, .int .u32 0, .int .u32 0, .bool false, .bool false, .bool false, .bool false, .int .u8 0, .int .u8 6], row (nd24) 25 (full refZ [.int .u32 0, .int .u32 1] nd25), row (nd7) 25 #[.int .u32 0, .int .u32 0], row (nd17) 211 #[.int .u32 0, .int .u32 1, .bool false, .bool false, .bool false], row (nd16) 71 #[.iface 209 (.pointer (some ⟨nd17, 0, none⟩)), .int .i32 loc, .slice (some ⟨nd18, 0, none⟩) 3 3, .int .i32 0, .int .u8 0, .int .u8 0, .bool false, .bool false], row (nd18) 35 #[.iface (clsTy s) (.pointer (some ⟨nd19, 0, none⟩)), .int .i32 loc, .iface (thsTy r) (.pointer (some ⟨nd21, 0, none⟩)), .int .i32 loc, .iface (kyT k0) (.pointer (some ⟨nd30, 0, none⟩)), .int .i32 loc], row (nd19) (clsT s) (clsC s loc nd20), row (nd20) (xtrT s) (xtrC s loc nd19), row (nd21) (thsT r) (thsC r), row (nd28) 35 (full exprZ ([.iface 237 (.pointer (some ⟨nd27, 0, none⟩)), .int .i32 loc] ++ (args loc nd14 n)) nd29)] X := hQ.back HL.out HX.out [0, 3, 4, 5, 6, 7, 8, 9, 10, 11, 12, 13, 15] (by decide) (by decide)
  clear hQ HL HX hO
  have hO := hN
  clear hN
  obtain ⟨c9_1_0, c9_1_1, c9_1_2, c9_1_3, c9_1_4, c9_1_5, c9_1_6, c9_1_7, lt9_1, y9_1, -⟩ := hO.k8 1 rfl
  obtain ⟨c9_2_0, c9_2_1, c9_2_2, c9_2_3, c9_2_4, c9_2_5, c9_2_6, c9_2_7, lt9_2, y9_2, -⟩ := hO.k8 2 rfl
  obtain ⟨c9_3_0, c9_3_1, lt9_3, y9_3, -⟩ := hO.k2 3 rfl
  obtain ⟨c9_8_0, c9_8_1, lt9_8, y9_8, -⟩ := hO.k2 8 rfl
  obtain ⟨c9_9_0, c9_9_1, c9_9_2, c9_9_3, c9_9_4, lt9_9, y9_9, -⟩ := hO.k5 9 rfl
  obtain ⟨c9_10_0, c9_10_1, c9_10_2, c9_10_3, c9_10_4, c9_10_5, c9_10_6, c9_10_7, lt9_10, y9_10, -⟩ := hO.k8 10 rfl
  obtain ⟨c9_11_0, c9_11_1, c9_11_2, c9_11_3, c9_11_4, c9_11_5, lt9_11, y9_11, -⟩ := hO.k6 11 rfl
  have HO := Lib.hid hO
  clear hO
  go_wp2_with (first | (with_reducible refine Own.stay (fn := Tryd.f6) ?_) | (first | (go_at_call 27; go_in)))
  try with_reducible refine Own.Stay.mk ?_
  have hO := HO.out
  clear HO c9_1_0 c9_1_1 c9_1_2 c9_1_3 c9_1_4 c9_1_5 c9_1_6 c9_1_7 lt9_1 y9_1 c9_2_0 c9_2_1 c9_2_2 c9_2_3 c9_2_4 c9_2_5 c9_2_6 c9_2_7 lt9_2 y9_2 c9_3_0 c9_3_1 lt9_3 y9_3 c9_8_0 c9_8_1 lt9_8 y9_8 c9_9_0 c9_9_1 c9_9_2 c9_9_3 c9_9_4 lt9_9 y9_9 c9_10_0 c9_10_1 c9_10_2 c9_10_3 c9_10_4 c9_10_5 c9_10_6 c9_10_7 lt9_10 y9_10 c9_11_0 c9_11_1 c9_11_2 c9_11_3 c9_11_4 c9_11_5 lt9_11 y9_11
  have hL := hO.apart
  have hX := hO.apartX
  have HL := Lib.hid hL
  have HX := Lib.hid hX
  clear hL hX
  have hP9 := hO.pick [0] (by decide)
  have T9 := symsO nd4 ((newSrslP r s true nd2 nd5 nd6 nd7).setIfInBounds 106 (.slice (some ⟨nd22, 0, none⟩) 2 (2 + nd23))) nd22 2 (2 + nd23) _ _ _ hP9 (get_set (newSrsl_106 r s true nd2 nd5 nd6 nd7) _)
  refine Calls.mono T9 ?_
  clear hP9 T9
  rintro e u37 ⟨rfl, hQ⟩
  have hN : Own w0 u37 [row (nd4) 193 ((newSrslP r s true nd2 nd5 nd6 nd7).setIfInBounds 106 (.slice (some ⟨nd22, 0, none⟩) 2 (2 + nd23))), row (nd9) 71 #[.iface 225 (.pointer (some ⟨nd26, 0, none⟩)), .int .i32 loc, .slice (some ⟨nd28, 0, none⟩) (1 + n) ((1 + n) + nd29), .int .i32 0, .int .u8 0, .int .u8 0, .bool false, .bool false], row (nd26) 228 #[.iface 65 (.pointer (some ⟨nd16, 0, none⟩)), .int .i32 loc, .string ⟨#[99, 97, 108, 108]⟩, .int .i32 loc, .int .u8 0, .bool false, .bool false, .bool false], row (B34) 35 #[.iface 65 (.pointer (some ⟨nd16, 0, none⟩)), .int .i32 loc], ((nd5, .map #[⟨.string ⟨#[95, 95, 115, 117, 112, 101, 114, 71, 101, 116]⟩, .agg #[.int .i32 loc, .int .u32 0, .int .u32 1], 0⟩] 1) : Rw), row (nd22) 56 (full symZ (symL ([sy ⟨#[70, 111, 111]⟩ (uz r 0), sy ⟨#[95, 95, 115, 117, 112, 101, 114, 71, 101, 116]⟩ 1])) nd23), row (nd6) 203 #[.pointer none, .pointer none, .slice none 0 0, .map none, .slice none 0 0, .slice (some ⟨nd24, 0, none⟩) 1 (1 + nd25), .int .i32 0, .int .i32 0, .int .u32 0, .int .u32 0, .bool false, .bool false, .bool false, .bool false, .int .u8 0, .int .u8 6], row (nd24) 25 (full refZ [.int .u32 0, .int .u32 1] nd25), row (nd7) 25 #[.int .u32 0, .int .u32 0], row (nd17) 211 #[.int .u32 0, .int .u32 1, .bool false, .bool false, .bool false], row (nd16) 71 #[.iface 209 (.pointer (some ⟨nd17, 0, none⟩)), .int .i32 loc, .slice (some ⟨nd18, 0, none⟩) 3 3, .int .i32 0, .int .u8 0, .int .u8 0, .bool false, .bool false], row (nd18) 35 #[.iface (clsTy s) (.pointer (some ⟨nd19, 0, none⟩)), .int .i32 loc, .iface (thsTy r) (.pointer (some ⟨nd21, 0, none⟩)), .int .i32 loc, .iface (kyT k0) (.pointer (some ⟨nd30, 0, none⟩)), .int .i32 loc], row (nd19) (clsT s) (clsC s loc nd20), row (nd20) (xtrT s) (xtrC s loc nd19), row (nd21) (thsT r) (thsC r), row (nd28) 35 (full exprZ ([.iface 237 (.pointer (some ⟨nd27, 0, none⟩)), .int .i32 loc] ++ (args loc nd14 n)) nd29)] X := hQ.back HL.out HX.out [1, 2, 3, 4, 5, 6, 7, 8, 9, 10, 11, 12, 13, 14, 15] (by decide) (by decide)
  clear hQ HL HX hO
  have hO := hN
  clear hN
  obtain ⟨c9_1_0, c9_1_1, c9_1_2, c9_1_3, c9_1_4, c9_1_5, c9_1_6, c9_1_7, lt9_1, y9_1, -⟩ := hO.k8 1 rfl
  obtain ⟨c9_2_0, c9_2_1, c9_2_2, c9_2_3, c9_2_4, c9_2_5, c9_2_6, c9_2_7, lt9_2, y9_2, -⟩ := hO.k8 2 rfl
  obtain ⟨c9_3_0, c9_3_1, lt9_3, y9_3, -⟩ := hO.k2 3 rfl
  obtain ⟨c9_8_0, c9_8_1, lt9_8, y9_8, -⟩ := hO.k2 8 rfl
  obtain ⟨c9_9_0, c9_9_1, c9_9_2, c9_9_3, c9_9_4, lt9_9, y9_9, -⟩ := hO.k5 9 rfl
  obtain ⟨c9_10_0, c9_10_1, c9_10_2, c9_10_3, c9_10_4, c9_10_5, c9_10_6, c9_10_7, lt9_10, y9_10, -⟩ := hO.k8 10 rfl
  obtain ⟨c9_11_0, c9_11_1, c9_11_2, c9_11_3, c9_11_4, c9_11_5, lt9_11, y9_11, -⟩ := hO.k6 11 rfl
  have HO := Lib.hid hO
  clear hO
  go_wp2_with (first | (with_reducible refine Own.stay (fn := Tryd.f6) ?_) | (first | (go_at_call 27; go_in)))
  try with_reducible refine Own.Stay.mk ?_
  have hO := HO.out
  clear HO c9_1_0 c9_1_1 c9_1_2 c9_1_3 c9_1_4 c9_1_5 c9_1_6 c9_1_7 lt9_1 y9_1 c9_2_0 c9_2_1 c9_2_2 c9_2_3 c9_2_4 c9_2_5 c9_2_6 c9_2_7 lt9_2 y9_2 c9_3_0 c9_3_1 lt9_3 y9_3 c9_8_0 c9_8_1 lt9_8 y9_8 c9_9_0 c9_9_1 c9_9_2 c9_9_3 c9_9_4 lt9_9 y9_9 c9_10_0 c9_10_1 c9_10_2 c9_10_3 c9_10_4 c9_10_5 c9_10_6 c9_10_7 lt9_10 y9_10 c9_11_0 c9_11_1 c9_11_2 c9_11_3 c9_11_4 c9_11_5 lt9_11 y9_11
  have hL := hO.apart
  have hX := hO.apartX
  have HL := Lib.hid hL
  have HX := Lib.hid hX
  clear hL hX
  have hP9 := hO.pick [2] (by decide)
  have T9 := dotOf nd26 65 nd16 loc ⟨#[99, 97, 108, 108]⟩ loc loc _ _ _ hP9 
  refine Calls.mono T9 ?_
  clear hP9 T9
  rintro e u38 ⟨rfl, hQ⟩
  have hN : Own w0 u38 [row (nd26) 228 #[.iface 65 (.pointer (some ⟨nd16, 0, none⟩)), .int .i32 loc, .string ⟨#[99, 97, 108, 108]⟩, .int .i32 loc, .int .u8 0, .bool false, .bool false, .bool false], row (nd4) 193 ((newSrslP r s true nd2 nd5 nd6 nd7).setIfInBounds 106 (.slice (some ⟨nd22, 0, none⟩) 2 (2 + nd23))), row (nd9) 71 #[.iface 225 (.pointer (some ⟨nd26, 0, none⟩)), .int .i32 loc, .slice (some ⟨nd28, 0, none⟩) (1 + n) ((1 + n) + nd29), .int .i32 0, .int .u8 0, .int .u8 0, .bool false, .bool false], row (B34) 35 #[.iface 65 (.pointer (some ⟨nd16, 0, none⟩)), .int .i32 loc], ((nd5, .map #[⟨.string ⟨#[95, 95, 115, 117, 112, 101, 114, 71, 101, 116]⟩, .agg #[.int .i32 loc, .int .u32 0, .int .u32 1], 0⟩] 1) : Rw), row (nd22) 56 (full symZ (symL ([sy ⟨#[70, 111, 111]⟩ (uz r 0), sy ⟨#[95, 95, 115, 117, 112, 101, 114, 71, 101, 116]⟩ 1])) nd23), row (nd6) 203 #[.pointer none, .pointer none, .slice none 0 0, .map none, .slice none 0 0, .slice (some ⟨nd24, 0, none⟩) 1 (1 + nd25), .int .i32 0, .int .i32 0, .int .u32 0, .int .u32 0, .bool false, .bool false, .bool false, .bool false, .int .u8 0, .int .u8 6], row (nd24) 25 (full refZ [.int .u32 0, .int .u32 1] nd25), row (nd7) 25 #[.int .u32 0, .int .u32 0], row (nd17) 211 #[.int .u32 0, .int .u32 1, .bool false, .bool false, .bool false], row (nd16) 71 #[.iface 209 (.pointer (some ⟨nd17, 0, none⟩)), .int .i32 loc, .slice (some ⟨nd18, 0, none⟩) 3 3, .int .i32 0, .int .u8 0, .int .u8 0, .bool false, .bool false], row (nd18) 35 #[.iface (clsTy s) (.pointer (some ⟨nd19, 0, none⟩)), .int .i32 loc, .iface (thsTy r) (.pointer (some ⟨nd21, 0, none⟩)), .int .i32 loc, .iface (kyT k0) (.pointer (some ⟨nd30, 0, none⟩)), .int .i32 loc], row (nd19) (clsT s) (clsC s loc nd20), row (nd20) (xtrT s) (xtrC s loc nd19), row (nd21) (thsT r) (thsC r), row (nd28) 35 (full exprZ ([.iface 237 (.pointer (some ⟨nd27, 0, none⟩)), .int .i32 loc] ++ (args loc nd14 n)) nd29)] X := hQ.back HL.out HX.out [0, 1, 3, 4, 5, 6, 7, 8, 9, 10, 11, 12, 13, 14, 15] (by decide) (by decide)
  clear hQ HL HX hO
  have hO := hN
  clear hN
  obtain ⟨ix9, hix9, hax9, hjx9⟩ := hO.ix
  have ix9_0 : ix9 nd26 = 0 := hjx9 0 _ _ rfl
  have ix9_1 : ix9 nd4 = 1 := hjx9 1 _ _ rfl
  have ix9_2 : ix9 nd9 = 2 := hjx9 2 _ _ rfl
  have ix9_3 : ix9 B34 = 3 := hjx9 3 _ _ rfl
  have ix9_4 : ix9 nd5 = 4 := hjx9 4 _ _ rfl
  have ix9_5 : ix9 nd22 = 5 := hjx9 5 _ _ rfl
  have ix9_6 : ix9 nd6 = 6 := hjx9 6 _ _ rfl
  have ix9_7 : ix9 nd24 = 7 := hjx9 7 _ _ rfl
  have ix9_8 : ix9 nd7 = 8 := hjx9 8 _ _ rfl
  have ix9_9 : ix9 nd17 = 9 := hjx9 9 _ _ rfl
  have ix9_10 : ix9 nd16 = 10 := hjx9 10 _ _ rfl
  have ix9_11 : ix9 nd18 = 11 := hjx9 11 _ _ rfl
  have ix9_12 : ix9 nd19 = 12 := hjx9 12 _ _ rfl
  have ix9_13 : ix9 nd20 = 13 := hjx9 13 _ _ rfl
  have ix9_14 : ix9 nd21 = 14 := hjx9 14 _ _ rfl
  have ix9_15 : ix9 nd28 = 15 := hjx9 15 _ _ rfl
  clear hjx9
  obtain ⟨c9_0_0, c9_0_1, c9_0_2, c9_0_3, c9_0_4, c9_0_5, c9_0_6, c9_0_7, lt9_0, y9_0, -⟩ := hO.k8 0 rfl
  have c9_1_32 : u38.cell? ⟨nd4, 32, none⟩ = some (.bool false) := hO.cell 1 rfl (32) ((get_other (newSrsl_32 r s true nd2 nd5 nd6 nd7) (by omega) _))
  have c9_1_66 : u38.cell? ⟨nd4, 66, none⟩ = some (.int .u32 0) := hO.cell 1 rfl (66) ((get_other (newSrsl_66 r s true nd2 nd5 nd6 nd7) (by omega) _))
  have c9_1_95 : u38.cell? ⟨nd4, 95, none⟩ = some (.bool r) := hO.cell 1 rfl (95) ((get_other (newSrsl_95 r s true nd2 nd5 nd6 nd7) (by omega) _))
  have c9_1_96 : u38.cell? ⟨nd4, 96, none⟩ = some (.bool s) := hO.cell 1 rfl (96) ((get_other (newSrsl_96 r s true nd2 nd5 nd6 nd7) (by omega) _))
  have c9_1_97 : u38.cell? ⟨nd4, 97, none⟩ = some (.pointer (some ⟨nd7, 0, none⟩)) := hO.cell 1 rfl (97) ((get_other (newSrsl_97 r s true nd2 nd5 nd6 nd7) (by omega) _))
  have c9_1_105 : u38.cell? ⟨nd4, 105, none⟩ = some (.pointer none) := hO.cell 1 rfl (105) ((get_other (newSrsl_105 r s true nd2 nd5 nd6 nd7) (by omega) _))
  have c9_1_106 : u38.cell? ⟨nd4, 106, none⟩ = some (.slice (some ⟨nd22, 0, none⟩) 2 (2 + nd23)) := hO.cell 1 rfl (106) ((get_set (newSrsl_106 r s true nd2 nd5 nd6 nd7) _))
  have c9_1_117 : u38.cell? ⟨nd4, 117, none⟩ = some (.map (some nd5)) := hO.cell 1 rfl (117) ((get_other (newSrsl_117 r s true nd2 nd5 nd6 nd7) (by omega) _))
  have c9_1_187 : u38.cell? ⟨nd4, 187, none⟩ = some (.pointer (some ⟨nd6, 0, none⟩)) := hO.cell 1 rfl (187) ((get_other (newSrsl_187 r s true nd2 nd5 nd6 nd7) (by omega) _))
  have c9_1_338 : u38.cell? ⟨nd4, 338, none⟩ = some (.bool true) := hO.cell 1 rfl (338) ((get_other (newSrsl_338 r s true nd2 nd5 nd6 nd7) (by omega) _))
  have c9_1_350 : u38.cell? ⟨nd4, 350, none⟩ = some (.bool false) := hO.cell 1 rfl (350) ((get_other (newSrsl_350 r s true nd2 nd5 nd6 nd7) (by omega) _))
  have lt9_1 : nd4 < u38.heap.size := hO.lt 1 rfl
  have y9_1 : ∀ o, u38.frozen? ⟨nd4, o, none⟩ = false := hO.free 1 rfl
  obtain ⟨c9_2_0, c9_2_1, c9_2_2, c9_2_3, c9_2_4, c9_2_5, c9_2_6, c9_2_7, lt9_2, y9_2, pl9_2⟩ := hO.k8 2 rfl
  obtain ⟨c9_3_0, c9_3_1, lt9_3, y9_3, pl9_3⟩ := hO.k2 3 rfl
  have c9_5_1 : u38.cell? ⟨nd22, 1, none⟩ = some (.string ⟨#[70, 111, 111]⟩) := hO.cell 5 rfl (1) ((full_at rfl))
  have c9_5_4 : u38.cell? ⟨nd22, 4, none⟩ = some (.int .u32 (uz r 0 : Int)) := hO.cell 5 rfl (4) ((full_at rfl))
  have c9_5_11 : u38.cell? ⟨nd22, 11, none⟩ = some (.string ⟨#[95, 95, 115, 117, 112, 101, 114, 71, 101, 116]⟩) := hO.cell 5 rfl (11) ((full_at rfl))
  have c9_5_14 : u38.cell? ⟨nd22, 14, none⟩ = some (.int .u32 1) := hO.cell 5 rfl (14) ((full_at rfl))
  have lt9_5 : nd22 < u38.heap.size := hO.lt 5 rfl
  have y9_5 : ∀ o, u38.frozen? ⟨nd22, o, none⟩ = false := hO.free 5 rfl
  have pl9_7 : Base.plainAt u38 (nd24) = true := hO.plain 7 rfl
  have c9_7_0 : u38.cell? ⟨nd24, 0, none⟩ = some (.int .u32 0) := hO.cell 7 rfl (0) ((full_at rfl))
  have c9_7_1 : u38.cell? ⟨nd24, 1, none⟩ = some (.int .u32 1) := hO.cell 7 rfl (1) ((full_at rfl))
  have lt9_7 : nd24 < u38.heap.size := hO.lt 7 rfl
  have y9_7 : ∀ o, u38.frozen? ⟨nd24, o, none⟩ = false := hO.free 7 rfl
  obtain ⟨c9_8_0, c9_8_1, lt9_8, y9_8, pl9_8⟩ := hO.k2 8 rfl
  obtain ⟨c9_9_0, c9_9_1, c9_9_2, c9_9_3, c9_9_4, lt9_9, y9_9, -⟩ := hO.k5 9 rfl
  obtain ⟨c9_10_0, c9_10_1, c9_10_2, c9_10_3, c9_10_4, c9_10_5, c9_10_6, c9_10_7, lt9_10, y9_10, pl9_10⟩ := hO.k8 10 rfl
  obtain ⟨c9_11_0, c9_11_1, c9_11_2, c9_11_3, c9_11_4, c9_11_5, lt9_11, y9_11, pl9_11⟩ := hO.k6 11 rfl
  have pl9_15 : Base.plainAt u38 (nd28) = true := hO.plain 15 rfl
  have HO := Lib.hid hO
  clear hO
  go_wp2_with (first | (with_reducible refine Own.stay (fn := Tryd.f6) ?_) | (first | (go_at_call 27; go_in)))
  try with_reducible refine Own.Stay.mk ?_
  have hO := HO.out
  clear HO hix9 hax9 ix9_0 ix9_1 ix9_2 ix9_3 ix9_4 ix9_5 ix9_6 ix9_7 ix9_8 ix9_9 ix9_10 ix9_11 ix9_12 ix9_13 ix9_14 ix9_15 ix9 c9_0_0 c9_0_1 c9_0_2 c9_0_3 c9_0_4 c9_0_5 c9_0_6 c9_0_7 lt9_0 y9_0 c9_1_32 c9_1_66 c9_1_95 c9_1_96 c9_1_97 c9_1_105 c9_1_106 c9_1_117 c9_1_187 c9_1_338 c9_1_350 lt9_1 y9_1 c9_2_0 c9_2_1 c9_2_2 c9_2_3 c9_2_4 c9_2_5 c9_2_6 c9_2_7 lt9_2 y9_2 pl9_2 c9_3_0 c9_3_1 lt9_3 y9_3 pl9_3 c9_5_1 c9_5_4 c9_5_11 c9_5_14 lt9_5 y9_5 pl9_7 c9_7_0 c9_7_1 lt9_7 y9_7 c9_8_0 c9_8_1 lt9_8 y9_8 pl9_8 c9_9_0 c9_9_1 c9_9_2 c9_9_3 c9_9_4 lt9_9 y9_9 c9_10_0 c9_10_1 c9_10_2 c9_10_3 c9_10_4 c9_10_5 c9_10_6 c9_10_7 lt9_10 y9_10 pl9_10 c9_11_0 c9_11_1 c9_11_2 c9_11_3 c9_11_4 c9_11_5 lt9_11 y9_11 pl9_11 pl9_15
  generalize hW : World.alloc _ _ = W40
  have hN : Own w0 W40 [row (u38.heap.size) 35 #[.iface 65 (.pointer (some ⟨nd16, 0, none⟩)), .int .i32 loc], row (nd26) 228 #[.iface 65 (.pointer (some ⟨nd16, 0, none⟩)), .int .i32 loc, .string ⟨#[99, 97, 108, 108]⟩, .int .i32 loc, .int .u8 0, .bool false, .bool false, .bool false], row (nd4) 193 ((newSrslP r s true nd2 nd5 nd6 nd7).setIfInBounds 106 (.slice (some ⟨nd22, 0, none⟩) 2 (2 + nd23))), row (nd9) 71 #[.iface 225 (.pointer (some ⟨nd26, 0, none⟩)), .int .i32 loc, .slice (some ⟨nd28, 0, none⟩) (1 + n) ((1 + n) + nd29), .int .i32 0, .int .u8 0, .int .u8 0, .bool false, .bool false], row (B34) 35 #[.iface 65 (.pointer (some ⟨nd16, 0, none⟩)), .int .i32 loc], ((nd5, .map #[⟨.string ⟨#[95, 95, 115, 117, 112, 101, 114, 71, 101, 116]⟩, .agg #[.int .i32 loc, .int .u32 0, .int .u32 1], 0⟩] 1) : Rw), row (nd22) 56 (full symZ (symL ([sy ⟨#[70, 111, 111]⟩ (uz r 0), sy ⟨#[95, 95, 115, 117, 112, 101, 114, 71, 101, 116]⟩ 1])) nd23), row (nd6) 203 #[.pointer none, .pointer none, .slice none 0 0, .map none, .slice none 0 0, .slice (some ⟨nd24, 0, none⟩) 1 (1 + nd25), .int .i32 0, .int .i32 0, .int .u32 0, .int .u32 0, .bool false, .bool false, .bool false, .bool false, .int .u8 0, .int .u8 6], row (nd24) 25 (full refZ [.int .u32 0, .int .u32 1] nd25), row (nd7) 25 #[.int .u32 0, .int .u32 0], row (nd17) 211 #[.int .u32 0, .int .u32 1, .bool false, .bool false, .bool false], row (nd16) 71 #[.iface 209 (.pointer (some ⟨nd17, 0, none⟩)), .int .i32 loc, .slice (some ⟨nd18, 0, none⟩) 3 3, .int .i32 0, .int .u8 0, .int .u8 0, .bool false, .bool false], row (nd18) 35 #[.iface (clsTy s) (.pointer (some ⟨nd19, 0, none⟩)), .int .i32 loc, .iface (thsTy r) (.pointer (some ⟨nd21, 0, none⟩)), .int .i32 loc, .iface (kyT k0) (.pointer (some ⟨nd30, 0, none⟩)), .int .i32 loc], row (nd19) (clsT s) (clsC s loc nd20), row (nd20) (xtrT s) (xtrC s loc nd19), row (nd21) (thsT r) (thsC r), row (nd28) 35 (full exprZ ([.iface 237 (.pointer (some ⟨nd27, 0, none⟩)), .int .i32 loc] ++ (args loc nd14 n)) nd29)] X := by
    rw [← hW]
    exact (hO).alloc' _ (u38.heap.size) (by simp)
  clear hW hO
  generalize u38.heap.size = B39 at hN ⊢
  have hO := hN
  clear hN
  have hL := hO.apart
  have hX := hO.apartX
  have HL := Lib.hid hL
  have HX := Lib.hid hX
  clear hL hX
  have hP9 := hO.pick [2, 5] (by decide)
  have h9_hsz : (#[⟨.string ⟨#[95, 95, 115, 117, 112, 101, 114, 71, 101, 116]⟩, .agg #[.int .i32 loc, .int .u32 0, .int .u32 1], 0⟩] : Array MapEntry).size = 1 := rfl
  have T9 := impCnt nd4 ((newSrslP r s true nd2 nd5 nd6 nd7).setIfInBounds 106 (.slice (some ⟨nd22, 0, none⟩) 2 (2 + nd23))) nd5 #[⟨.string ⟨#[95, 95, 115, 117, 112, 101, 114, 71, 101, 116]⟩, .agg #[.int .i32 loc, .int .u32 0, .int .u32 1], 0⟩] 1 1 _ _ _ hP9 (get_other (newSrsl_117 r s true nd2 nd5 nd6 nd7) (by omega) _) h9_hsz
  refine Calls.mono T9 ?_
  clear hP9 T9 h9_hsz
  rintro e u41 ⟨rfl, hQ⟩
  have hN : Own w0 u41 [row (nd4) 193 ((newSrslP r s true nd2 nd5 nd6 nd7).setIfInBounds 106 (.slice (some ⟨nd22, 0, none⟩) 2 (2 + nd23))), ((nd5, .map #[⟨.string ⟨#[95, 95, 115, 117, 112, 101, 114, 71, 101, 116]⟩, .agg #[.int .i32 loc, .int .u32 0, .int .u32 1], 0⟩] 1) : Rw), row (B39) 35 #[.iface 65 (.pointer (some ⟨nd16, 0, none⟩)), .int .i32 loc], row (nd26) 228 #[.iface 65 (.pointer (some ⟨nd16, 0, none⟩)), .int .i32 loc, .string ⟨#[99, 97, 108, 108]⟩, .int .i32 loc, .int .u8 0, .bool false, .bool false, .bool false], row (nd9) 71 #[.iface 225 (.pointer (some ⟨nd26, 0, none⟩)), .int .i32 loc, .slice (some ⟨nd28, 0, none⟩) (1 + n) ((1 + n) + nd29), .int .i32 0, .int .u8 0, .int .u8 0, .bool false, .bool false], row (B34) 35 #[.iface 65 (.pointer (some ⟨nd16, 0, none⟩)), .int .i32 loc], row (nd22) 56 (full symZ (symL ([sy ⟨#[70, 111, 111]⟩ (uz r 0), sy ⟨#[95, 95, 115, 117, 112, 101, 114, 71, 101, 116]⟩ 1])) nd23), row (nd6) 203 #[.pointer none, .pointer none, .slice none 0 0, .map none, .slice none 0 0, .slice (some ⟨nd24, 0, none⟩) 1 (1 + nd25), .int .i32 0, .int .i32 0, .int .u32 0, .int .u32 0, .bool false, .bool false, .bool false, .bool false, .int .u8 0, .int .u8 6], row (nd24) 25 (full refZ [.int .u32 0, .int .u32 1] nd25), row (nd7) 25 #[.int .u32 0, .int .u32 0], row (nd17) 211 #[.int .u32 0, .int .u32 1, .bool false, .bool false, .bool false], row (nd16) 71 #[.iface 209 (.pointer (some ⟨nd17, 0, none⟩)), .int .i32 loc, .slice (some ⟨nd18, 0, none⟩) 3 3, .int .i32 0, .int .u8 0, .int .u8 0, .bool false, .bool false], row (nd18) 35 #[.iface (clsTy s) (.pointer (some ⟨nd19, 0, none⟩)), .int .i32 loc, .iface (thsTy r) (.pointer (some ⟨nd21, 0, none⟩)), .int .i32 loc, .iface (kyT k0) (.pointer (some ⟨nd30, 0, none⟩)), .int .i32 loc], row (nd19) (clsT s) (clsC s loc nd20), row (nd20) (xtrT s) (xtrC s loc nd19), row (nd21) (thsT r) (thsC r), row (nd28) 35 (full exprZ ([.iface 237 (.pointer (some ⟨nd27, 0, none⟩)), .int .i32 loc] ++ (args loc nd14 n)) nd29)] X := hQ.back HL.out HX.out [0, 1, 3, 4, 6, 7, 8, 9, 10, 11, 12, 13, 14, 15, 16] (by decide) (by decide)
  clear hQ HL HX hO
  have hO := hN
  clear hN
  obtain ⟨c9_2_0, c9_2_1, lt9_2, y9_2, -⟩ := hO.k2 2 rfl
  obtain ⟨c9_3_0, c9_3_1, c9_3_2, c9_3_3, c9_3_4, c9_3_5, c9_3_6, c9_3_7, lt9_3, y9_3, -⟩ := hO.k8 3 rfl
  obtain ⟨c9_4_0, c9_4_1, c9_4_2, c9_4_3, c9_4_4, c9_4_5, c9_4_6, c9_4_7, lt9_4, y9_4, -⟩ := hO.k8 4 rfl
  obtain ⟨c9_5_0, c9_5_1, lt9_5, y9_5, -⟩ := hO.k2 5 rfl
  obtain ⟨c9_9_0, c9_9_1, lt9_9, y9_9, -⟩ := hO.k2 9 rfl
  obtain ⟨c9_10_0, c9_10_1, c9_10_2, c9_10_3, c9_10_4, lt9_10, y9_10, -⟩ := hO.k5 10 rfl
  obtain ⟨c9_11_0, c9_11_1, c9_11_2, c9_11_3, c9_11_4, c9_11_5, c9_11_6, c9_11_7, lt9_11, y9_11, -⟩ := hO.k8 11 rfl
  obtain ⟨c9_12_0, c9_12_1, c9_12_2, c9_12_3, c9_12_4, c9_12_5, lt9_12, y9_12, -⟩ := hO.k6 12 rfl
  have HO := Lib.hid hO
  clear hO
  go_wp2_with (first | (with_reducible refine Own.stay (fn := Tryd.f6) ?_) | (first | (go_at_call 27; go_in)))
  try with_reducible refine Own.Stay.mk ?_
  have hO := HO.out
  clear HO c9_2_0 c9_2_1 lt9_2 y9_2 c9_3_0 c9_3_1 c9_3_2 c9_3_3 c9_3_4 c9_3_5 c9_3_6 c9_3_7 lt9_3 y9_3 c9_4_0 c9_4_1 c9_4_2 c9_4_3 c9_4_4 c9_4_5 c9_4_6 c9_4_7 lt9_4 y9_4 c9_5_0 c9_5_1 lt9_5 y9_5 c9_9_0 c9_9_1 lt9_9 y9_9 c9_10_0 c9_10_1 c9_10_2 c9_10_3 c9_10_4 lt9_10 y9_10 c9_11_0 c9_11_1 c9_11_2 c9_11_3 c9_11_4 c9_11_5 c9_11_6 c9_11_7 lt9_11 y9_11 c9_12_0 c9_12_1 c9_12_2 c9_12_3 c9_12_4 c9_12_5 lt9_12 y9_12
  have hL := hO.apart
  have hX := hO.apartX
  have HL := Lib.hid hL
  have HX := Lib.hid hX
  clear hL hX
  have hP9 := hO.pick [0, 1] (by decide)
  have h9_hyes : Instr.findNow .string (.string (⟨#[95, 95, 115, 117, 112, 101, 114, 71, 101, 116]⟩ : ByteArray)) (#[⟨.string ⟨#[95, 95, 115, 117, 112, 101, 114, 71, 101, 116]⟩, .agg #[.int .i32 loc, .int .u32 0, .int .u32 1], 0⟩] : Array MapEntry).toList 0 = some (some (0, .agg #[.int .i32 loc, .int .u32 0, .int .u32 1])) := (by kernel_rfl)
  have T9 := impRefY nd4 ((newSrslP r s true nd2 nd5 nd6 nd7).setIfInBounds 106 (.slice (some ⟨nd22, 0, none⟩) 2 (2 + nd23))) nd5 #[⟨.string ⟨#[95, 95, 115, 117, 112, 101, 114, 71, 101, 116]⟩, .agg #[.int .i32 loc, .int .u32 0, .int .u32 1], 0⟩] 1 ⟨#[95, 95, 115, 117, 112, 101, 114, 71, 101, 116]⟩ 0 loc 0 1 _ _ _ hP9 (get_other (newSrsl_117 r s true nd2 nd5 nd6 nd7) (by omega) _) h9_hyes
  refine Calls.mono T9 ?_
  clear hP9 T9 h9_hyes
  rintro e u42 ⟨rfl, hQ⟩
  have hN : Own w0 u42 [row (nd4) 193 ((newSrslP r s true nd2 nd5 nd6 nd7).setIfInBounds 106 (.slice (some ⟨nd22, 0, none⟩) 2 (2 + nd23))), ((nd5, .map #[⟨.string ⟨#[95, 95, 115, 117, 112, 101, 114, 71, 101, 116]⟩, .agg #[.int .i32 loc, .int .u32 0, .int .u32 1], 0⟩] 1) : Rw), row (B39) 35 #[.iface 65 (.pointer (some ⟨nd16, 0, none⟩)), .int .i32 loc], row (nd26) 228 #[.iface 65 (.pointer (some ⟨nd16, 0, none⟩)), .int .i32 loc, .string ⟨#[99, 97, 108, 108]⟩, .int .i32 loc, .int .u8 0, .bool false, .bool false, .bool false], row (nd9) 71 #[.iface 225 (.pointer (some ⟨nd26, 0, none⟩)), .int .i32 loc, .slice (some ⟨nd28, 0, none⟩) (1 + n) ((1 + n) + nd29), .int .i32 0, .int .u8 0, .int .u8 0, .bool false, .bool false], row (B34) 35 #[.iface 65 (.pointer (some ⟨nd16, 0, none⟩)), .int .i32 loc], row (nd22) 56 (full symZ (symL ([sy ⟨#[70, 111, 111]⟩ (uz r 0), sy ⟨#[95, 95, 115, 117, 112, 101, 114, 71, 101, 116]⟩ 1])) nd23), row (nd6) 203 #[.pointer none, .pointer none, .slice none 0 0, .map none, .slice none 0 0, .slice (some ⟨nd24, 0, none⟩) 1 (1 + nd25), .int .i32 0, .int .i32 0, .int .u32 0, .int .u32 0, .bool false, .bool false, .bool false, .bool false, .int .u8 0, .int .u8 6], row (nd24) 25 (full refZ [.int .u32 0, .int .u32 1] nd25), row (nd7) 25 #[.int .u32 0, .int .u32 0], row (nd17) 211 #[.int .u32 0, .int .u32 1, .bool false, .bool false, .bool false], row (nd16) 71 #[.iface 209 (.pointer (some ⟨nd17, 0, none⟩)), .int .i32 loc, .slice (some ⟨nd18, 0, none⟩) 3 3, .int .i32 0, .int .u8 0, .int .u8 0, .bool false, .bool false], row (nd18) 35 #[.iface (clsTy s) (.pointer (some ⟨nd19, 0, none⟩)), .int .i32 loc, .iface (thsTy r) (.pointer (some ⟨nd21, 0, none⟩)), .int .i32 loc, .iface (kyT k0) (.pointer (some ⟨nd30, 0, none⟩)), .int .i32 loc], row (nd19) (clsT s) (clsC s loc nd20), row (nd20) (xtrT s) (xtrC s loc nd19), row (nd21) (thsT r) (thsC r), row (nd28) 35 (full exprZ ([.iface 237 (.pointer (some ⟨nd27, 0, none⟩)), .int .i32 loc] ++ (args loc nd14 n)) nd29)] X := hQ.back HL.out HX.out [2, 3, 4, 5, 6, 7, 8, 9, 10, 11, 12, 13, 14, 15, 16] (by decide) (by decide)
  clear hQ HL HX hO
  have hO := hN
  clear hN
  obtain ⟨ix9, hix9, hax9, hjx9⟩ := hO.ix
  have ix9_0 : ix9 nd4 = 0 := hjx9 0 _ _ rfl
  have ix9_1 : ix9 nd5 = 1 := hjx9 1 _ _ rfl
  have ix9_2 : ix9 B39 = 2 := hjx9 2 _ _ rfl
  have ix9_3 : ix9 nd26 = 3 := hjx9 3 _ _ rfl
  have ix9_4 : ix9 nd9 = 4 := hjx9 4 _ _ rfl
  have ix9_5 : ix9 B34 = 5 := hjx9 5 _ _ rfl
  have ix9_6 : ix9 nd22 = 6 := hjx9 6 _ _ rfl
  have ix9_7 : ix9 nd6 = 7 := hjx9 7 _ _ rfl
  have ix9_8 : ix9 nd24 = 8 := hjx9 8 _ _ rfl
  have ix9_9 : ix9 nd7 = 9 := hjx9 9 _ _ rfl
  have ix9_10 : ix9 nd17 = 10 := hjx9 10 _ _ rfl
  have ix9_11 : ix9 nd16 = 11 := hjx9 11 _ _ rfl
  have ix9_12 : ix9 nd18 = 12 := hjx9 12 _ _ rfl
  have ix9_13 : ix9 nd19 = 13 := hjx9 13 _ _ rfl
  have ix9_14 : ix9 nd20 = 14 := hjx9 14 _ _ rfl
  have ix9_15 : ix9 nd21 = 15 := hjx9 15 _ _ rfl
  have ix9_16 : ix9 nd28 = 16 := hjx9 16 _ _ rfl
  clear hjx9
  have c9_0_32 : u42.cell? ⟨nd4, 32, none⟩ = some (.bool false) := hO.cell 0 rfl (32) ((get_other (newSrsl_32 r s true nd2 nd5 nd6 nd7) (by omega) _))
  have c9_0_66 : u42.cell? ⟨nd4, 66, none⟩ = some (.int .u32 0) := hO.cell 0 rfl (66) ((get_other (newSrsl_66 r s true nd2 nd5 nd6 nd7) (by omega) _))
  have c9_0_95 : u42.cell? ⟨nd4, 95, none⟩ = some (.bool r) := hO.cell 0 rfl (95) ((get_other (newSrsl_95 r s true nd2 nd5 nd6 nd7) (by omega) _))
  have c9_0_96 : u42.cell? ⟨nd4, 96, none⟩ = some (.bool s) := hO.cell 0 rfl (96) ((get_other (newSrsl_96 r s true nd2 nd5 nd6 nd7) (by omega) _))
  have c9_0_97 : u42.cell? ⟨nd4, 97, none⟩ = some (.pointer (some ⟨nd7, 0, none⟩)) := hO.cell 0 rfl (97) ((get_other (newSrsl_97 r s true nd2 nd5 nd6 nd7) (by omega) _))
  have c9_0_105 : u42.cell? ⟨nd4, 105, none⟩ = some (.pointer none) := hO.cell 0 rfl (105) ((get_other (newSrsl_105 r s true nd2 nd5 nd6 nd7) (by omega) _))
  have c9_0_106 : u42.cell? ⟨nd4, 106, none⟩ = some (.slice (some ⟨nd22, 0, none⟩) 2 (2 + nd23)) := hO.cell 0 rfl (106) ((get_set (newSrsl_106 r s true nd2 nd5 nd6 nd7) _))
  have c9_0_117 : u42.cell? ⟨nd4, 117, none⟩ = some (.map (some nd5)) := hO.cell 0 rfl (117) ((get_other (newSrsl_117 r s true nd2 nd5 nd6 nd7) (by omega) _))
  have c9_0_187 : u42.cell? ⟨nd4, 187, none⟩ = some (.pointer (some ⟨nd6, 0, none⟩)) := hO.cell 0 rfl (187) ((get_other (newSrsl_187 r s true nd2 nd5 nd6 nd7) (by omega) _))
  have c9_0_338 : u42.cell? ⟨nd4, 338, none⟩ = some (.bool true) := hO.cell 0 rfl (338) ((get_other (newSrsl_338 r s true nd2 nd5 nd6 nd7) (by omega) _))
  have c9_0_350 : u42.cell? ⟨nd4, 350, none⟩ = some (.bool false) := hO.cell 0 rfl (350) ((get_other (newSrsl_350 r s true nd2 nd5 nd6 nd7) (by omega) _))
  have lt9_0 : nd4 < u42.heap.size := hO.lt 0 rfl
  have y9_0 : ∀ o, u42.frozen? ⟨nd4, o, none⟩ = false := hO.free 0 rfl
  obtain ⟨c9_2_0, c9_2_1, lt9_2, y9_2, pl9_2⟩ := hO.k2 2 rfl
  obtain ⟨c9_3_0, c9_3_1, c9_3_2, c9_3_3, c9_3_4, c9_3_5, c9_3_6, c9_3_7, lt9_3, y9_3, -⟩ := hO.k8 3 rfl
  obtain ⟨c9_4_0, c9_4_1, c9_4_2, c9_4_3, c9_4_4, c9_4_5, c9_4_6, c9_4_7, lt9_4, y9_4, pl9_4⟩ := hO.k8 4 rfl
  obtain ⟨c9_5_0, c9_5_1, lt9_5, y9_5, pl9_5⟩ := hO.k2 5 rfl
  have c9_6_1 : u42.cell? ⟨nd22, 1, none⟩ = some (.string ⟨#[70, 111, 111]⟩) := hO.cell 6 rfl (1) ((full_at rfl))
  have c9_6_4 : u42.cell? ⟨nd22, 4, none⟩ = some (.int .u32 (uz r 0 : Int)) := hO.cell 6 rfl (4) ((full_at rfl))
  have c9_6_11 : u42.cell? ⟨nd22, 11, none⟩ = some (.string ⟨#[95, 95, 115, 117, 112, 101, 114, 71, 101, 116]⟩) := hO.cell 6 rfl (11) ((full_at rfl))
  have c9_6_14 : u42.cell? ⟨nd22, 14, none⟩ = some (.int .u32 1) := hO.cell 6 rfl (14) ((full_at rfl))
  have lt9_6 : nd22 < u42.heap.size := hO.lt 6 rfl
  have y9_6 : ∀ o, u42.frozen? ⟨nd22, o, none⟩ = false := hO.free 6 rfl
  have pl9_8 : Base.plainAt u42 (nd24) = true := hO.plain 8 rfl
  have c9_8_0 : u42.cell? ⟨nd24, 0, none⟩ = some (.int .u32 0) := hO.cell 8 rfl (0) ((full_at rfl))
  have c9_8_1 : u42.cell? ⟨nd24, 1, none⟩ = some (.int .u32 1) := hO.cell 8 rfl (1) ((full_at rfl))
  have lt9_8 : nd24 < u42.heap.size := hO.lt 8 rfl
  have y9_8 : ∀ o, u42.frozen? ⟨nd24, o, none⟩ = false := hO.free 8 rfl
  obtain ⟨c9_9_0, c9_9_1, lt9_9, y9_9, pl9_9⟩ := hO.k2 9 rfl
  obtain ⟨c9_10_0, c9_10_1, c9_10_2, c9_10_3, c9_10_4, lt9_10, y9_10, -⟩ := hO.k5 10 rfl
  obtain ⟨c9_11_0, c9_11_1, c9_11_2, c9_11_3, c9_11_4, c9_11_5, c9_11_6, c9_11_7, lt9_11, y9_11, pl9_11⟩ := hO.k8 11 rfl
  obtain ⟨c9_12_0, c9_12_1, c9_12_2, c9_12_3, c9_12_4, c9_12_5, lt9_12, y9_12, pl9_12⟩ := hO.k6 12 rfl
  have pl9_16 : Base.plainAt u42 (nd28) = true := hO.plain 16 rfl
  have HO := Lib.hid hO
  clear hO
  go_wp2_with (first | (with_reducible refine Own.stay (fn := Tryd.f6) ?_) | (first | (go_at_call 27; go_in)))
  try with_reducible refine Own.Stay.mk ?_
  have hO := HO.out
  clear HO hix9 hax9 ix9_0 ix9_1 ix9_2 ix9_3 ix9_4 ix9_5 ix9_6 ix9_7 ix9_8 ix9_9 ix9_10 ix9_11 ix9_12 ix9_13 ix9_14 ix9_15 ix9_16 ix9 c9_0_32 c9_0_66 c9_0_95 c9_0_96 c9_0_97 c9_0_105 c9_0_106 c9_0_117 c9_0_187 c9_0_338 c9_0_350 lt9_0 y9_0 c9_2_0 c9_2_1 lt9_2 y9_2 pl9_2 c9_3_0 c9_3_1 c9_3_2 c9_3_3 c9_3_4 c9_3_5 c9_3_6 c9_3_7 lt9_3 y9_3 c9_4_0 c9_4_1 c9_4_2 c9_4_3 c9_4_4 c9_4_5 c9_4_6 c9_4_7 lt9_4 y9_4 pl9_4 c9_5_0 c9_5_1 lt9_5 y9_5 pl9_5 c9_6_1 c9_6_4 c9_6_11 c9_6_14 lt9_6 y9_6 pl9_8 c9_8_0 c9_8_1 lt9_8 y9_8 c9_9_0 c9_9_1 lt9_9 y9_9 pl9_9 c9_10_0 c9_10_1 c9_10_2 c9_10_3 c9_10_4 lt9_10 y9_10 c9_11_0 c9_11_1 c9_11_2 c9_11_3 c9_11_4 c9_11_5 c9_11_6 c9_11_7 lt9_11 y9_11 pl9_11 c9_12_0 c9_12_1 c9_12_2 c9_12_3 c9_12_4 c9_12_5 lt9_12 y9_12 pl9_12 pl9_16
  generalize hW : World.alloc _ _ = W44
  have hN : Own w0 W44 [row (u42.heap.size) 25 #[.int .u32 0, .int .u32 1], row (nd4) 193 ((newSrslP r s true nd2 nd5 nd6 nd7).setIfInBounds 106 (.slice (some ⟨nd22, 0, none⟩) 2 (2 + nd23))), ((nd5, .map #[⟨.string ⟨#[95, 95, 115, 117, 112, 101, 114, 71, 101, 116]⟩, .agg #[.int .i32 loc, .int .u32 0, .int .u32 1], 0⟩] 1) : Rw), row (B39) 35 #[.iface 65 (.pointer (some ⟨nd16, 0, none⟩)), .int .i32 loc], row (nd26) 228 #[.iface 65 (.pointer (some ⟨nd16, 0, none⟩)), .int .i32 loc, .string ⟨#[99, 97, 108, 108]⟩, .int .i32 loc, .int .u8 0, .bool false, .bool false, .bool false], row (nd9) 71 #[.iface 225 (.pointer (some ⟨nd26, 0, none⟩)), .int .i32 loc, .slice (some ⟨nd28, 0, none⟩) (1 + n) ((1 + n) + nd29), .int .i32 0, .int .u8 0, .int .u8 0, .bool false, .bool false], row (B34) 35 #[.iface 65 (.pointer (some ⟨nd16, 0, none⟩)), .int .i32 loc], row (nd22) 56 (full symZ (symL ([sy ⟨#[70, 111, 111]⟩ (uz r 0), sy ⟨#[95, 95, 115, 117, 112, 101, 114, 71, 101, 116]⟩ 1])) nd23), row (nd6) 203 #[.pointer none, .pointer none, .slice none 0 0, .map none, .slice none 0 0, .slice (some ⟨nd24, 0, none⟩) 1 (1 + nd25), .int .i32 0, .int .i32 0, .int .u32 0, .int .u32 0, .bool false, .bool false, .bool false, .bool false, .int .u8 0, .int .u8 6], row (nd24) 25 (full refZ [.int .u32 0, .int .u32 1] nd25), row (nd7) 25 #[.int .u32 0, .int .u32 0], row (nd17) 211 #[.int .u32 0, .int .u32 1, .bool false, .bool false, .bool false], row (nd16) 71 #[.iface 209 (.pointer (some ⟨nd17, 0, none⟩)), .int .i32 loc, .slice (some ⟨nd18, 0, none⟩) 3 3, .int .i32 0, .int .u8 0, .int .u8 0, .bool false, .bool false], row (nd18) 35 #[.iface (clsTy s) (.pointer (some ⟨nd19, 0, none⟩)), .int .i32 loc, .iface (thsTy r) (.pointer (some ⟨nd21, 0, none⟩)), .int .i32 loc, .iface (kyT k0) (.pointer (some ⟨nd30, 0, none⟩)), .int .i32 loc], row (nd19) (clsT s) (clsC s loc nd20), row (nd20) (xtrT s) (xtrC s loc nd19), row (nd21) (thsT r) (thsC r), row (nd28) 35 (full exprZ ([.iface 237 (.pointer (some ⟨nd27, 0, none⟩)), .int .i32 loc] ++ (args loc nd14 n)) nd29)] X := by
    rw [← hW]
    exact (hO).alloc' _ (u42.heap.size) (by simp)
  clear hW hO
  generalize u42.heap.size = B43 at hN ⊢
  have hO := hN
  clear hN
  have hL := hO.apart
  have hX := hO.apartX
  have HL := Lib.hid hL
  have HX := Lib.hid hX
  clear hL hX
  have hP9 := hO.pick [4] (by decide)
  have T9 := dotOf nd26 65 nd16 loc ⟨#[99, 97, 108, 108]⟩ loc loc _ _ _ hP9 
  refine Calls.mono T9 ?_
  clear hP9 T9
  rintro e u45 ⟨rfl, hQ⟩
  have hN : Own w0 u45 [row (nd26) 228 #[.iface 65 (.pointer (some ⟨nd16, 0, none⟩)), .int .i32 loc, .string ⟨#[99, 97, 108, 108]⟩, .int .i32 loc, .int .u8 0, .bool false, .bool false, .bool false], row (B43) 25 #[.int .u32 0, .int .u32 1], row (nd4) 193 ((newSrslP r s true nd2 nd5 nd6 nd7).setIfInBounds 106 (.slice (some ⟨nd22, 0, none⟩) 2 (2 + nd23))), ((nd5, .map #[⟨.string ⟨#[95, 95, 115, 117, 112, 101, 114, 71, 101, 116]⟩, .agg #[.int .i32 loc, .int .u32 0, .int .u32 1], 0⟩] 1) : Rw), row (B39) 35 #[.iface 65 (.pointer (some ⟨nd16, 0, none⟩)), .int .i32 loc], row (nd9) 71 #[.iface 225 (.pointer (some ⟨nd26, 0, none⟩)), .int .i32 loc, .slice (some ⟨nd28, 0, none⟩) (1 + n) ((1 + n) + nd29), .int .i32 0, .int .u8 0, .int .u8 0, .bool false, .bool false], row (B34) 35 #[.iface 65 (.pointer (some ⟨nd16, 0, none⟩)), .int .i32 loc], row (nd22) 56 (full symZ (symL ([sy ⟨#[70, 111, 111]⟩ (uz r 0), sy ⟨#[95, 95, 115, 117, 112, 101, 114, 71, 101, 116]⟩ 1])) nd23), row (nd6) 203 #[.pointer none, .pointer none, .slice none 0 0, .map none, .slice none 0 0, .slice (some ⟨nd24, 0, none⟩) 1 (1 + nd25), .int .i32 0, .int .i32 0, .int .u32 0, .int .u32 0, .bool false, .bool false, .bool false, .bool false, .int .u8 0, .int .u8 6], row (nd24) 25 (full refZ [.int .u32 0, .int .u32 1] nd25), row (nd7) 25 #[.int .u32 0, .int .u32 0], row (nd17) 211 #[.int .u32 0, .int .u32 1, .bool false, .bool false, .bool false], row (nd16) 71 #[.iface 209 (.pointer (some ⟨nd17, 0, none⟩)), .int .i32 loc, .slice (some ⟨nd18, 0, none⟩) 3 3, .int .i32 0, .int .u8 0, .int .u8 0, .bool false, .bool false], row (nd18) 35 #[.iface (clsTy s) (.pointer (some ⟨nd19, 0, none⟩)), .int .i32 loc, .iface (thsTy r) (.pointer (some ⟨nd21, 0, none⟩)), .int .i32 loc, .iface (kyT k0) (.pointer (some ⟨nd30, 0, none⟩)), .int .i32 loc], row (nd19) (clsT s) (clsC s loc nd20), row (nd20) (xtrT s) (xtrC s loc nd19), row (nd21) (thsT r) (thsC r), row (nd28) 35 (full exprZ ([.iface 237 (.pointer (some ⟨nd27, 0, none⟩)), .int .i32 loc] ++ (args loc nd14 n)) nd29)] X := hQ.back HL.out HX.out [0, 1, 2, 3, 5, 6, 7, 8, 9, 10, 11, 12, 13, 14, 15, 16, 17] (by decide) (by decide)
  clear hQ HL HX hO
  have hO := hN
  clear hN
  obtain ⟨c9_0_0, c9_0_1, c9_0_2, c9_0_3, c9_0_4, c9_0_5, c9_0_6, c9_0_7, lt9_0, y9_0, -⟩ := hO.k8 0 rfl
  obtain ⟨c9_1_0, c9_1_1, lt9_1, y9_1, -⟩ := hO.k2 1 rfl
  obtain ⟨c9_4_0, c9_4_1, lt9_4, y9_4, -⟩ := hO.k2 4 rfl
  obtain ⟨c9_5_0, c9_5_1, c9_5_2, c9_5_3, c9_5_4, c9_5_5, c9_5_6, c9_5_7, lt9_5, y9_5, -⟩ := hO.k8 5 rfl
  obtain ⟨c9_6_0, c9_6_1, lt9_6, y9_6, -⟩ := hO.k2 6 rfl
  obtain ⟨c9_10_0, c9_10_1, lt9_10, y9_10, -⟩ := hO.k2 10 rfl
  obtain ⟨c9_11_0, c9_11_1, c9_11_2, c9_11_3, c9_11_4, lt9_11, y9_11, -⟩ := hO.k5 11 rfl
  obtain ⟨c9_12_0, c9_12_1, c9_12_2, c9_12_3, c9_12_4, c9_12_5, c9_12_6, c9_12_7, lt9_12, y9_12, -⟩ := hO.k8 12 rfl
  obtain ⟨c9_13_0, c9_13_1, c9_13_2, c9_13_3, c9_13_4, c9_13_5, lt9_13, y9_13, -⟩ := hO.k6 13 rfl
  have HO := Lib.hid hO
  clear hO
  go_wp2_with (first | (with_reducible refine Own.stay (fn := Tryd.f6) ?_) | (first | (go_at_call 27; go_in)))
  try with_reducible refine Own.Stay.mk ?_
  have hO := HO.out
  clear HO c9_0_0 c9_0_1 c9_0_2 c9_0_3 c9_0_4 c9_0_5 c9_0_6 c9_0_7 lt9_0 y9_0 c9_1_0 c9_1_1 lt9_1 y9_1 c9_4_0 c9_4_1 lt9_4 y9_4 c9_5_0 c9_5_1 c9_5_2 c9_5_3 c9_5_4 c9_5_5 c9_5_6 c9_5_7 lt9_5 y9_5 c9_6_0 c9_6_1 lt9_6 y9_6 c9_10_0 c9_10_1 lt9_10 y9_10 c9_11_0 c9_11_1 c9_11_2 c9_11_3 c9_11_4 lt9_11 y9_11 c9_12_0 c9_12_1 c9_12_2 c9_12_3 c9_12_4 c9_12_5 c9_12_6 c9_12_7 lt9_12 y9_12 c9_13_0 c9_13_1 c9_13_2 c9_13_3 c9_13_4 c9_13_5 lt9_13 y9_13
  generalize hW : World.alloc _ _ = W47
  have hN : Own w0 W47 [row (u45.heap.size) 35 #[.iface 65 (.pointer (some ⟨nd16, 0, none⟩)), .int .i32 loc], row (nd26) 228 #[.iface 65 (.pointer (some ⟨nd16, 0, none⟩)), .int .i32 loc, .string ⟨#[99, 97, 108, 108]⟩, .int .i32 loc, .int .u8 0, .bool false, .bool false, .bool false], row (B43) 25 #[.int .u32 0, .int .u32 1], row (nd4) 193 ((newSrslP r s true nd2 nd5 nd6 nd7).setIfInBounds 106 (.slice (some ⟨nd22, 0, none⟩) 2 (2 + nd23))), ((nd5, .map #[⟨.string ⟨#[95, 95, 115, 117, 112, 101, 114, 71, 101, 116]⟩, .agg #[.int .i32 loc, .int .u32 0, .int .u32 1], 0⟩] 1) : Rw), row (B39) 35 #[.iface 65 (.pointer (some ⟨nd16, 0, none⟩)), .int .i32 loc], row (nd9) 71 #[.iface 225 (.pointer (some ⟨nd26, 0, none⟩)), .int .i32 loc, .slice (some ⟨nd28, 0, none⟩) (1 + n) ((1 + n) + nd29), .int .i32 0, .int .u8 0, .int .u8 0, .bool false, .bool false], row (B34) 35 #[.iface 65 (.pointer (some ⟨nd16, 0, none⟩)), .int .i32 loc], row (nd22) 56 (full symZ (symL ([sy ⟨#[70, 111, 111]⟩ (uz r 0), sy ⟨#[95, 95, 115, 117, 112, 101, 114, 71, 101, 116]⟩ 1])) nd23), row (nd6) 203 #[.pointer none, .pointer none, .slice none 0 0, .map none, .slice none 0 0, .slice (some ⟨nd24, 0, none⟩) 1 (1 + nd25), .int .i32 0, .int .i32 0, .int .u32 0, .int .u32 0, .bool false, .bool false, .bool false, .bool false, .int .u8 0, .int .u8 6], row (nd24) 25 (full refZ [.int .u32 0, .int .u32 1] nd25), row (nd7) 25 #[.int .u32 0, .int .u32 0], row (nd17) 211 #[.int .u32 0, .int .u32 1, .bool false, .bool false, .bool false], row (nd16) 71 #[.iface 209 (.pointer (some ⟨nd17, 0, none⟩)), .int .i32 loc, .slice (some ⟨nd18, 0, none⟩) 3 3, .int .i32 0, .int .u8 0, .int .u8 0, .bool false, .bool false], row (nd18) 35 #[.iface (clsTy s) (.pointer (some ⟨nd19, 0, none⟩)), .int .i32 loc, .iface (thsTy r) (.pointer (some ⟨nd21, 0, none⟩)), .int .i32 loc, .iface (kyT k0) (.pointer (some ⟨nd30, 0, none⟩)), .int .i32 loc], row (nd19) (clsT s) (clsC s loc nd20), row (nd20) (xtrT s) (xtrC s loc nd19), row (nd21) (thsT r) (thsC r), row (nd28) 35 (full exprZ ([.iface 237 (.pointer (some ⟨nd27, 0, none⟩)), .int .i32 loc] ++ (args loc nd14 n)) nd29)] X := by
    rw [← hW]
    exact (hO).alloc' _ (u45.heap.size) (by simp)
  clear hW hO
  generalize u45.heap.size = B46 at hN ⊢
  have hO := hN
  clear hN
  have hL := hO.apart
  have hX := hO.apartX
  have HL := Lib.hid hL
  have HX := Lib.hid hX
  clear hL hX
  have hP9 := hO.pick [13, 12] (by decide)
  have T9 := helperCall3 nd16 nd17 nd18 loc loc 0 1 _ _ _ hP9 
  refine Calls.mono T9 ?_
  clear hP9 T9
  rintro e u48 ⟨rfl, hQ⟩
  have hN : Own w0 u48 [row (nd16) 71 #[.iface 209 (.pointer (some ⟨nd17, 0, none⟩)), .int .i32 loc, .slice (some ⟨nd18, 0, none⟩) 3 3, .int .i32 0, .int .u8 0, .int .u8 0, .bool false, .bool false], row (nd17) 211 #[.int .u32 0, .int .u32 1, .bool false, .bool false, .bool false], row (B46) 35 #[.iface 65 (.pointer (some ⟨nd16, 0, none⟩)), .int .i32 loc], row (nd26) 228 #[.iface 65 (.pointer (some ⟨nd16, 0, none⟩)), .int .i32 loc, .string ⟨#[99, 97, 108, 108]⟩, .int .i32 loc, .int .u8 0, .bool false, .bool false, .bool false], row (B43) 25 #[.int .u32 0, .int .u32 1], row (nd4) 193 ((newSrslP r s true nd2 nd5 nd6 nd7).setIfInBounds 106 (.slice (some ⟨nd22, 0, none⟩) 2 (2 + nd23))), ((nd5, .map #[⟨.string ⟨#[95, 95, 115, 117, 112, 101, 114, 71, 101, 116]⟩, .agg #[.int .i32 loc, .int .u32 0, .int .u32 1], 0⟩] 1) : Rw), row (B39) 35 #[.iface 65 (.pointer (some ⟨nd16, 0, none⟩)), .int .i32 loc], row (nd9) 71 #[.iface 225 (.pointer (some ⟨nd26, 0, none⟩)), .int .i32 loc, .slice (some ⟨nd28, 0, none⟩) (1 + n) ((1 + n) + nd29), .int .i32 0, .int .u8 0, .int .u8 0, .bool false, .bool false], row (B34) 35 #[.iface 65 (.pointer (some ⟨nd16, 0, none⟩)), .int .i32 loc], row (nd22) 56 (full symZ (symL ([sy ⟨#[70, 111, 111]⟩ (uz r 0), sy ⟨#[95, 95, 115, 117, 112, 101, 114, 71, 101, 116]⟩ 1])) nd23), row (nd6) 203 #[.pointer none, .pointer none, .slice none 0 0, .map none, .slice none 0 0, .slice (some ⟨nd24, 0, none⟩) 1 (1 + nd25), .int .i32 0, .int .i32 0, .int .u32 0, .int .u32 0, .bool false, .bool false, .bool false, .bool false, .int .u8 0, .int .u8 6], row (nd24) 25 (full refZ [.int .u32 0, .int .u32 1] nd25), row (nd7) 25 #[.int .u32 0, .int .u32 0], row (nd18) 35 #[.iface (clsTy s) (.pointer (some ⟨nd19, 0, none⟩)), .int .i32 loc, .iface (thsTy r) (.pointer (some ⟨nd21, 0, none⟩)), .int .i32 loc, .iface (kyT k0) (.pointer (some ⟨nd30, 0, none⟩)), .int .i32 loc], row (nd19) (clsT s) (clsC s loc nd20), row (nd20) (xtrT s) (xtrC s loc nd19), row (nd21) (thsT r) (thsC r), row (nd28) 35 (full exprZ ([.iface 237 (.pointer (some ⟨nd27, 0, none⟩)), .int .i32 loc] ++ (args loc nd14 n)) nd29)] X := hQ.back HL.out HX.out [0, 1, 2, 3, 4, 5, 6, 7, 8, 9, 10, 11, 14, 15, 16, 17, 18] (by decide) (by decide)
  clear hQ HL HX hO
  have hO := hN
  clear hN
  obtain ⟨c9_0_0, c9_0_1, c9_0_2, c9_0_3, c9_0_4, c9_0_5, c9_0_6, c9_0_7, lt9_0, y9_0, -⟩ := hO.k8 0 rfl
  obtain ⟨c9_1_0, c9_1_1, c9_1_2, c9_1_3, c9_1_4, lt9_1, y9_1, -⟩ := hO.k5 1 rfl
  obtain ⟨c9_2_0, c9_2_1, lt9_2, y9_2, -⟩ := hO.k2 2 rfl
  obtain ⟨c9_3_0, c9_3_1, c9_3_2, c9_3_3, c9_3_4, c9_3_5, c9_3_6, c9_3_7, lt9_3, y9_3, -⟩ := hO.k8 3 rfl
  obtain ⟨c9_4_0, c9_4_1, lt9_4, y9_4, -⟩ := hO.k2 4 rfl
  obtain ⟨c9_7_0, c9_7_1, lt9_7, y9_7, -⟩ := hO.k2 7 rfl
  obtain ⟨c9_8_0, c9_8_1, c9_8_2, c9_8_3, c9_8_4, c9_8_5, c9_8_6, c9_8_7, lt9_8, y9_8, -⟩ := hO.k8 8 rfl
  obtain ⟨c9_9_0, c9_9_1, lt9_9, y9_9, -⟩ := hO.k2 9 rfl
  obtain ⟨c9_13_0, c9_13_1, lt9_13, y9_13, -⟩ := hO.k2 13 rfl
  obtain ⟨c9_14_0, c9_14_1, c9_14_2, c9_14_3, c9_14_4, c9_14_5, lt9_14, y9_14, -⟩ := hO.k6 14 rfl
  have HO := Lib.hid hO
  clear hO
  go_wp2_with (first | (with_reducible refine Own.stay (fn := Tryd.f6) ?_) | (first | (go_at_call 27; go_in)))
  try with_reducible refine Own.Stay.mk ?_
  have hO := HO.out
  clear HO c9_0_0 c9_0_1 c9_0_2 c9_0_3 c9_0_4 c9_0_5 c9_0_6 c9_0_7 lt9_0 y9_0 c9_1_0 c9_1_1 c9_1_2 c9_1_3 c9_1_4 lt9_1 y9_1 c9_2_0 c9_2_1 lt9_2 y9_2 c9_3_0 c9_3_1 c9_3_2 c9_3_3 c9_3_4 c9_3_5 c9_3_6 c9_3_7 lt9_3 y9_3 c9_4_0 c9_4_1 lt9_4 y9_4 c9_7_0 c9_7_1 lt9_7 y9_7 c9_8_0 c9_8_1 c9_8_2 c9_8_3 c9_8_4 c9_8_5 c9_8_6 c9_8_7 lt9_8 y9_8 c9_9_0 c9_9_1 lt9_9 y9_9 c9_13_0 c9_13_1 lt9_13 y9_13 c9_14_0 c9_14_1 c9_14_2 c9_14_3 c9_14_4 c9_14_5 lt9_14 y9_14
  refine bodyPost_ret (v := .bool true) ?_ rfl ⟨rfl, hO.sub [] (by decide)⟩
  simp [results, Tryd.results6, go_sem]
end Go.Proofs.YtkhmjppfogppoaaDoor.Use
