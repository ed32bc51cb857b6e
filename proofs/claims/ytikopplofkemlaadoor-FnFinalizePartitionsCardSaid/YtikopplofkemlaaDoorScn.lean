/- A scan of one using declaration that declares nothing. No condition. -/
import Derived.Test.YtikopplofkemlaaDoorAbb
import Derived.Test.YtikopplofkemlaaDoorUmp
import Derived.Test.YtikopplofkemlaaDoorLive
import Derived.Test.YtikopplofkemlaaDoorLoop
import Derived.Test.YtikopplofkemlaaDoorUms
import Derived.Test.YtikopplofkemlaaDoorAppL
import Derived.Test.YtikopplofkemlaaDoorApp
import Derived.Test.YtikopplofkemlaaDoorOwnK
import Derived.Test.YtikopplofkemlaaDoorOwn
import Derived.Test.YtikopplofkemlaaDoorDeepCells
import Derived.Test.YtikopplofkemlaaDoorRows
import Derived.Test.YtikopplofkemlaaDoorUse
namespace Go.Proofs.YtikopplofkemlaaDoor.Use
open Go.ChangeShapes Go.WideShapes Go.ChangeAt Go.RowKit Go.Sort Own
set_option linter.unusedVariables false
def scanN0Post (pb : Nat) (PC : Array Value) (cs : Nat) (KC : Array Value) (qp cx ab sl : Nat) (ri rj : Int) (w0 : World) (X : Nat → Obj → Prop) (e : Ending) (w' : World) : Prop :=
 e = .returned (.tuple #[]) ∧ Own w0 w' [row (cx) 33 #[vI 7, vU ri, vU rj, bF], row (pb) 252 PC, row (cs) 99 KC, row (ab) 61 #[.iface 42 (vP sl), vI 7], row (sl) 57 #[vN, .int .u8 2, bF, bF]] X
set_option maxRecDepth 100000 in
set_option maxHeartbeats 1000000 in
theorem scanN0 (pb : Nat) (PC : Array Value) (cs : Nat) (KC : Array Value) (qp cx ab sl : Nat) (ri rj : Int) (w0 w : World) (X : Nat → Obj → Prop) (hO : Own w0 w [row (cx) 33 #[vI 0, vU ri, vU rj, bF], row (pb) 252 PC, row (cs) 99 KC, row (ab) 61 #[.iface 42 (vP sl), vI 7], row (sl) 57 #[vN, .int .u8 3, bF, bF]] X) (hk104 : PC[104]? = some (vP cs)) (hk23 : PC[23]? = some (.int .u64 0)) (hk34 : PC[34]? = some (.int .u8 0)) (hk352 : PC[352]? = some (bF)) (hpar : KC[1]? = some (vP qp)) :
  Calls Tryd.prog 43 #[vP cx, vP pb, .slice (some ⟨ab, 0, none⟩) 1 1] w (scanN0Post pb PC cs KC qp cx ab sl ri rj w0 X) := by
 go_enter Tryd.func43, Tryd.ntmps43
 obtain ⟨c9_0_0, c9_0_1, c9_0_2, c9_0_3, lt9_0, y9_0, -⟩ := hO.k4 0 rfl
 obtain ⟨c9_3_0, c9_3_1, lt9_3, y9_3, -⟩ := hO.k2 3 rfl
 obtain ⟨c9_4_0, c9_4_1, c9_4_2, c9_4_3, lt9_4, y9_4, -⟩ := hO.k4 4 rfl
 have HO := Lib.hid hO
 clear hO
 go_wp2_with (first | (with_reducible refine Own.stay (fn := Tryd.f43) ?_) | (first | (go_at_call 51; go_in) | (go_at_call 52; go_in) | (go_at_call 57; go_in)))
 try with_reducible refine Own.Stay.mk ?_
 have hO := HO.out
 clear HO c9_0_0 c9_0_1 c9_0_2 c9_0_3 lt9_0 y9_0 c9_3_0 c9_3_1 lt9_3 y9_3 c9_4_0 c9_4_1 c9_4_2 c9_4_3 lt9_4 y9_4
 go_loopg [16] 2 (fun gf s16 wx => (gf = 2 ∧ s16 = .int .i64 0 ∧ Own w0 wx [row (cx) 33 #[vI 0, vU ri, vU rj, bF], row (pb) 252 PC, row (cs) 99 KC, row (ab) 61 #[.iface 42 (vP sl), vI 7], row (sl) 57 #[vN, .int .u8 3, bF, bF]] X) ∨ (gf = 1 ∧ s16 = .int .i64 1 ∧ Own w0 wx [row (cx) 33 #[vI 7, vU ri, vU rj, bF], row (pb) 252 PC, row (cs) 99 KC, row (ab) 61 #[.iface 42 (vP sl), vI 7], row (sl) 57 #[vN, .int .u8 2, bF, bF]] X))
 case atStart => exact Or.inl ⟨rfl, rfl, hO⟩
 obtain ⟨rfl, rfl, hO⟩ | ⟨rfl, rfl, hO⟩ := hrel
 ·skip
  obtain ⟨ix9, hix9, hax9, hjx9⟩ := hO.ix
  have ix9_0 : ix9 cx = 0 := hjx9 0 _ _ rfl
  have ix9_1 : ix9 pb = 1 := hjx9 1 _ _ rfl
  have ix9_2 : ix9 cs = 2 := hjx9 2 _ _ rfl
  have ix9_3 : ix9 ab = 3 := hjx9 3 _ _ rfl
  have ix9_4 : ix9 sl = 4 := hjx9 4 _ _ rfl
  clear hjx9
  obtain ⟨c9_0_0, c9_0_1, c9_0_2, c9_0_3, lt9_0, y9_0, -⟩ := hO.k4 0 rfl
  have c9_1_23 : wr.cell? ⟨pb, 23, none⟩ = some (.int .u64 0) := hO.cell 1 rfl (23) (hk23)
  have c9_1_34 : wr.cell? ⟨pb, 34, none⟩ = some (.int .u8 0) := hO.cell 1 rfl (34) (hk34)
  have c9_1_104 : wr.cell? ⟨pb, 104, none⟩ = some (vP cs) := hO.cell 1 rfl (104) (hk104)
  have c9_1_352 : wr.cell? ⟨pb, 352, none⟩ = some (bF) := hO.cell 1 rfl (352) (hk352)
  have lt9_1 : pb < wr.heap.size := hO.lt 1 rfl
  have y9_1 : ∀ o, wr.frozen? ⟨pb, o, none⟩ = false := hO.free 1 rfl
  have c9_2_1 : wr.cell? ⟨cs, 1, none⟩ = some (vP qp) := hO.cell 2 rfl (1) (hpar)
  have lt9_2 : cs < wr.heap.size := hO.lt 2 rfl
  have y9_2 : ∀ o, wr.frozen? ⟨cs, o, none⟩ = false := hO.free 2 rfl
  obtain ⟨c9_3_0, c9_3_1, lt9_3, y9_3, -⟩ := hO.k2 3 rfl
  obtain ⟨c9_4_0, c9_4_1, c9_4_2, c9_4_3, lt9_4, y9_4, -⟩ := hO.k4 4 rfl
  have HO := Lib.hid hO
  clear hO
  go_wp2_with (first | (with_reducible refine Own.stay (fn := Tryd.f43) ?_) | (first | (go_at_call 51; go_in) | (go_at_call 52; go_in) | (go_at_call 57; go_in)))
  try with_reducible refine Own.Stay.mk ?_
  have hO := HO.out
  clear HO hix9 hax9 ix9_0 ix9_1 ix9_2 ix9_3 ix9_4 ix9 c9_0_0 c9_0_1 c9_0_2 c9_0_3 lt9_0 y9_0 c9_1_23 c9_1_34 c9_1_104 c9_1_352 lt9_1 y9_1 c9_2_1 lt9_2 y9_2 c9_3_0 c9_3_1 lt9_3 y9_3 c9_4_0 c9_4_1 c9_4_2 c9_4_3 lt9_4 y9_4
  generalize hW : World.alloc _ _ = W2
  have hN : Own w0 W2 [row (wr.heap.size) 61 #[.iface 42 (vP sl), vI 7], row (cx) 33 #[vI 7, vU ri, vU rj, bF], row (pb) 252 PC, row (cs) 99 KC, row (ab) 61 #[.iface 42 (vP sl), vI 7], row (sl) 57 #[vN, .int .u8 3, bF, bF]] X := by
   rw [← hW]
   exact ((hO).set 0 rfl 0 _).alloc' _ (wr.heap.size) (by simp)
  clear hW hO
  generalize wr.heap.size = B1 at hN ⊢
  have hO := hN
  clear hN
  go_loopg [58] 1 (fun gf s58 wx => s58 = .int .i64 0 ∧ Own w0 wx [row (B1) 61 #[.iface 42 (vP sl), vI 7], row (cx) 33 #[vI 7, vU ri, vU rj, bF], row (pb) 252 PC, row (cs) 99 KC, row (ab) 61 #[.iface 42 (vP sl), vI 7], row (sl) 57 #[vN, .int .u8 3, bF, bF]] X)
  case atStart => exact ⟨rfl, hO⟩
  obtain ⟨rfl, hO⟩ := hrel
  obtain ⟨ix9, hix9, hax9, hjx9⟩ := hO.ix
  have ix9_0 : ix9 B1 = 0 := hjx9 0 _ _ rfl
  have ix9_1 : ix9 cx = 1 := hjx9 1 _ _ rfl
  have ix9_2 : ix9 pb = 2 := hjx9 2 _ _ rfl
  have ix9_3 : ix9 cs = 3 := hjx9 3 _ _ rfl
  have ix9_4 : ix9 ab = 4 := hjx9 4 _ _ rfl
  have ix9_5 : ix9 sl = 5 := hjx9 5 _ _ rfl
  clear hjx9
  obtain ⟨c9_0_0, c9_0_1, lt9_0, y9_0, pl9_0⟩ := hO.k2 0 rfl
  obtain ⟨c9_1_0, c9_1_1, c9_1_2, c9_1_3, lt9_1, y9_1, -⟩ := hO.k4 1 rfl
  have c9_2_23 : wr.cell? ⟨pb, 23, none⟩ = some (.int .u64 0) := hO.cell 2 rfl (23) (hk23)
  have c9_2_34 : wr.cell? ⟨pb, 34, none⟩ = some (.int .u8 0) := hO.cell 2 rfl (34) (hk34)
  have c9_2_104 : wr.cell? ⟨pb, 104, none⟩ = some (vP cs) := hO.cell 2 rfl (104) (hk104)
  have c9_2_352 : wr.cell? ⟨pb, 352, none⟩ = some (bF) := hO.cell 2 rfl (352) (hk352)
  have lt9_2 : pb < wr.heap.size := hO.lt 2 rfl
  have y9_2 : ∀ o, wr.frozen? ⟨pb, o, none⟩ = false := hO.free 2 rfl
  have c9_3_1 : wr.cell? ⟨cs, 1, none⟩ = some (vP qp) := hO.cell 3 rfl (1) (hpar)
  have lt9_3 : cs < wr.heap.size := hO.lt 3 rfl
  have y9_3 : ∀ o, wr.frozen? ⟨cs, o, none⟩ = false := hO.free 3 rfl
  obtain ⟨c9_4_0, c9_4_1, lt9_4, y9_4, pl9_4⟩ := hO.k2 4 rfl
  obtain ⟨c9_5_0, c9_5_1, c9_5_2, c9_5_3, lt9_5, y9_5, -⟩ := hO.k4 5 rfl
  have HO := Lib.hid hO
  clear hO
  go_wp2_with (first | (with_reducible refine Own.stay (fn := Tryd.f43) ?_) | (first | (go_at_call 51; go_in) | (go_at_call 52; go_in) | (go_at_call 57; go_in)))
  try with_reducible refine Own.Stay.mk ?_
  have hO := HO.out
  clear HO hix9 hax9 ix9_0 ix9_1 ix9_2 ix9_3 ix9_4 ix9_5 ix9 c9_0_0 c9_0_1 lt9_0 y9_0 pl9_0 c9_1_0 c9_1_1 c9_1_2 c9_1_3 lt9_1 y9_1 c9_2_23 c9_2_34 c9_2_104 c9_2_352 lt9_2 y9_2 c9_3_1 lt9_3 y9_3 c9_4_0 c9_4_1 lt9_4 y9_4 pl9_4 c9_5_0 c9_5_1 c9_5_2 c9_5_3 lt9_5 y9_5
  generalize hW : World.setCell _ _ _ = W4
  have hN : Own w0 W4 [row (B1) 61 #[.iface 42 (vP sl), vI 7], row (cx) 33 #[vI 7, vU ri, vU rj, bF], row (pb) 252 PC, row (cs) 99 KC, row (ab) 61 #[.iface 42 (vP sl), vI 7], row (sl) 57 #[vN, .int .u8 2, bF, bF]] X := by
   rw [← hW]
   exact (hO).set 5 rfl 1 _
  clear hW hO
  have hO := hN
  clear hN
  go_roundg 1
  case measure => omega
  case rel => exact Or.inr ⟨rfl, rfl, hO.sub [1, 2, 3, 4, 5] (by decide)⟩
 obtain ⟨c9_0_0, c9_0_1, c9_0_2, c9_0_3, lt9_0, y9_0, -⟩ := hO.k4 0 rfl
 obtain ⟨c9_3_0, c9_3_1, lt9_3, y9_3, -⟩ := hO.k2 3 rfl
 obtain ⟨c9_4_0, c9_4_1, c9_4_2, c9_4_3, lt9_4, y9_4, -⟩ := hO.k4 4 rfl
 have HO := Lib.hid hO
 clear hO
 go_wp2_with (first | (with_reducible refine Own.stay (fn := Tryd.f43) ?_) | (first | (go_at_call 51; go_in) | (go_at_call 52; go_in) | (go_at_call 57; go_in)))
 try with_reducible refine Own.Stay.mk ?_
 have hO := HO.out
 clear HO c9_0_0 c9_0_1 c9_0_2 c9_0_3 lt9_0 y9_0 c9_3_0 c9_3_1 lt9_3 y9_3 c9_4_0 c9_4_1 c9_4_2 c9_4_3 lt9_4 y9_4
 refine bodyPost_ret (v := .tuple #[]) ?_ rfl ⟨rfl, hO.sub [0, 1, 2, 3, 4] (by decide)⟩
 simp [results, Tryd.results43, go_sem]
def scanD0Post (pb : Nat) (PC : Array Value) (cs : Nat) (KC : Array Value) (qp cx ab sl : Nat) (ri rj : Int) (w0 : World) (X : Nat → Obj → Prop) (e : Ending) (w' : World) : Prop :=
 e = .returned (.tuple #[]) ∧ Own w0 w' [row (cx) 33 #[vI 7, vU ri, vU rj, bF], row (pb) 252 PC, row (cs) 99 KC, row (ab) 61 #[.iface 42 (vP sl), vI 7], row (sl) 57 #[vN, .int .u8 2, bF, bF]] X
set_option maxRecDepth 100000 in
set_option maxHeartbeats 1000000 in
theorem scanD0 (pb : Nat) (PC : Array Value) (cs : Nat) (KC : Array Value) (qp cx ab sl : Nat) (ri rj : Int) (w0 w : World) (X : Nat → Obj → Prop) (hO : Own w0 w [row (cx) 33 #[vI 0, vU ri, vU rj, bF], row (pb) 252 PC, row (cs) 99 KC, row (ab) 61 #[.iface 42 (vP sl), vI 7], row (sl) 57 #[vN, .int .u8 3, bF, bF]] X) (hk104 : PC[104]? = some (vP cs)) (hk23 : PC[23]? = some (.int .u64 0)) (hk34 : PC[34]? = some (.int .u8 0)) (hk352 : PC[352]? = some (bF)) (hpar : KC[1]? = some (vP qp)) :
  Calls Tryd.prog 37 #[vP cx, vP pb, .slice (some ⟨ab, 0, none⟩) 1 1] w (scanD0Post pb PC cs KC qp cx ab sl ri rj w0 X) := by
 go_enter Tryd.func37, Tryd.ntmps37
 obtain ⟨c9_0_0, c9_0_1, c9_0_2, c9_0_3, lt9_0, y9_0, -⟩ := hO.k4 0 rfl
 obtain ⟨c9_3_0, c9_3_1, lt9_3, y9_3, -⟩ := hO.k2 3 rfl
 obtain ⟨c9_4_0, c9_4_1, c9_4_2, c9_4_3, lt9_4, y9_4, -⟩ := hO.k4 4 rfl
 have HO := Lib.hid hO
 clear hO
 go_wp2_with (first | (with_reducible refine Own.stay (fn := Tryd.f37) ?_) | fail)
 try with_reducible refine Own.Stay.mk ?_
 have hO := HO.out
 clear HO c9_0_0 c9_0_1 c9_0_2 c9_0_3 lt9_0 y9_0 c9_3_0 c9_3_1 lt9_3 y9_3 c9_4_0 c9_4_1 c9_4_2 c9_4_3 lt9_4 y9_4
 have hL := hO.apart
 have hX := hO.apartX
 have HL := Lib.hid hL
 have HX := Lib.hid hX
 clear hL hX
 have hP9 := hO.pick [0, 1, 2, 3, 4] (by decide)
 have T9 := scanN0 pb PC cs KC qp cx ab sl ri rj _ _ _ hP9 hk104 hk23 hk34 hk352 hpar
 refine Calls.mono T9 ?_
 clear hP9 T9
 rintro e u1 ⟨rfl, hQ⟩
 have hN : Own w0 u1 [row (cx) 33 #[vI 7, vU ri, vU rj, bF], row (pb) 252 PC, row (cs) 99 KC, row (ab) 61 #[.iface 42 (vP sl), vI 7], row (sl) 57 #[vN, .int .u8 2, bF, bF]] X := hQ.back HL.out HX.out [] (by decide) (by decide)
 clear hQ HL HX hO
 have hO := hN
 clear hN
 obtain ⟨c9_0_0, c9_0_1, c9_0_2, c9_0_3, lt9_0, y9_0, -⟩ := hO.k4 0 rfl
 obtain ⟨c9_3_0, c9_3_1, lt9_3, y9_3, -⟩ := hO.k2 3 rfl
 obtain ⟨c9_4_0, c9_4_1, c9_4_2, c9_4_3, lt9_4, y9_4, -⟩ := hO.k4 4 rfl
 have HO := Lib.hid hO
 clear hO
 go_wp2_with (first | (with_reducible refine Own.stay (fn := Tryd.f37) ?_) | fail)
 try with_reducible refine Own.Stay.mk ?_
 have hO := HO.out
 clear HO c9_0_0 c9_0_1 c9_0_2 c9_0_3 lt9_0 y9_0 c9_3_0 c9_3_1 lt9_3 y9_3 c9_4_0 c9_4_1 c9_4_2 c9_4_3 lt9_4 y9_4
 refine bodyPost_ret (v := .tuple #[]) ?_ rfl ⟨rfl, hO.sub [0, 1, 2, 3, 4] (by decide)⟩
 simp [results, Tryd.results37, go_sem]
def scanN1Post (pb : Nat) (PC : Array Value) (cs : Nat) (KC : Array Value) (qp cx ab sl : Nat) (ri rj : Int) (w0 : World) (X : Nat → Obj → Prop) (e : Ending) (w' : World) : Prop :=
 e = .returned (.tuple #[]) ∧ Own w0 w' [row (cx) 33 #[vI 7, vU ri, vU rj, .bool true], row (pb) 252 PC, row (cs) 99 KC, row (ab) 61 #[.iface 42 (vP sl), vI 7], row (sl) 57 #[vN, .int .u8 2, bF, bF]] X
set_option maxRecDepth 100000 in
set_option maxHeartbeats 1000000 in
theorem scanN1 (pb : Nat) (PC : Array Value) (cs : Nat) (KC : Array Value) (qp cx ab sl : Nat) (ri rj : Int) (w0 w : World) (X : Nat → Obj → Prop) (hO : Own w0 w [row (cx) 33 #[vI 0, vU ri, vU rj, bF], row (pb) 252 PC, row (cs) 99 KC, row (ab) 61 #[.iface 42 (vP sl), vI 7], row (sl) 57 #[vN, .int .u8 4, bF, bF]] X) (hk104 : PC[104]? = some (vP cs)) (hk23 : PC[23]? = some (.int .u64 0)) (hk34 : PC[34]? = some (.int .u8 0)) (hk352 : PC[352]? = some (bF)) (hpar : KC[1]? = some (vP qp)) :
  Calls Tryd.prog 43 #[vP cx, vP pb, .slice (some ⟨ab, 0, none⟩) 1 1] w (scanN1Post pb PC cs KC qp cx ab sl ri rj w0 X) := by
 go_enter Tryd.func43, Tryd.ntmps43
 obtain ⟨c9_0_0, c9_0_1, c9_0_2, c9_0_3, lt9_0, y9_0, -⟩ := hO.k4 0 rfl
 obtain ⟨c9_3_0, c9_3_1, lt9_3, y9_3, -⟩ := hO.k2 3 rfl
 obtain ⟨c9_4_0, c9_4_1, c9_4_2, c9_4_3, lt9_4, y9_4, -⟩ := hO.k4 4 rfl
 have HO := Lib.hid hO
 clear hO
 go_wp2_with (first | (with_reducible refine Own.stay (fn := Tryd.f43) ?_) | (first | (go_at_call 51; go_in) | (go_at_call 52; go_in) | (go_at_call 57; go_in)))
 try with_reducible refine Own.Stay.mk ?_
 have hO := HO.out
 clear HO c9_0_0 c9_0_1 c9_0_2 c9_0_3 lt9_0 y9_0 c9_3_0 c9_3_1 lt9_3 y9_3 c9_4_0 c9_4_1 c9_4_2 c9_4_3 lt9_4 y9_4
 go_loopg [16] 2 (fun gf s16 wx => (gf = 2 ∧ s16 = .int .i64 0 ∧ Own w0 wx [row (cx) 33 #[vI 0, vU ri, vU rj, bF], row (pb) 252 PC, row (cs) 99 KC, row (ab) 61 #[.iface 42 (vP sl), vI 7], row (sl) 57 #[vN, .int .u8 4, bF, bF]] X) ∨ (gf = 1 ∧ s16 = .int .i64 1 ∧ Own w0 wx [row (cx) 33 #[vI 7, vU ri, vU rj, .bool true], row (pb) 252 PC, row (cs) 99 KC, row (ab) 61 #[.iface 42 (vP sl), vI 7], row (sl) 57 #[vN, .int .u8 2, bF, bF]] X))
 case atStart => exact Or.inl ⟨rfl, rfl, hO⟩
 obtain ⟨rfl, rfl, hO⟩ | ⟨rfl, rfl, hO⟩ := hrel
 ·skip
  obtain ⟨ix9, hix9, hax9, hjx9⟩ := hO.ix
  have ix9_0 : ix9 cx = 0 := hjx9 0 _ _ rfl
  have ix9_1 : ix9 pb = 1 := hjx9 1 _ _ rfl
  have ix9_2 : ix9 cs = 2 := hjx9 2 _ _ rfl
  have ix9_3 : ix9 ab = 3 := hjx9 3 _ _ rfl
  have ix9_4 : ix9 sl = 4 := hjx9 4 _ _ rfl
  clear hjx9
  obtain ⟨c9_0_0, c9_0_1, c9_0_2, c9_0_3, lt9_0, y9_0, -⟩ := hO.k4 0 rfl
  have c9_1_23 : wr.cell? ⟨pb, 23, none⟩ = some (.int .u64 0) := hO.cell 1 rfl (23) (hk23)
  have c9_1_34 : wr.cell? ⟨pb, 34, none⟩ = some (.int .u8 0) := hO.cell 1 rfl (34) (hk34)
  have c9_1_104 : wr.cell? ⟨pb, 104, none⟩ = some (vP cs) := hO.cell 1 rfl (104) (hk104)
  have c9_1_352 : wr.cell? ⟨pb, 352, none⟩ = some (bF) := hO.cell 1 rfl (352) (hk352)
  have lt9_1 : pb < wr.heap.size := hO.lt 1 rfl
  have y9_1 : ∀ o, wr.frozen? ⟨pb, o, none⟩ = false := hO.free 1 rfl
  have c9_2_1 : wr.cell? ⟨cs, 1, none⟩ = some (vP qp) := hO.cell 2 rfl (1) (hpar)
  have lt9_2 : cs < wr.heap.size := hO.lt 2 rfl
  have y9_2 : ∀ o, wr.frozen? ⟨cs, o, none⟩ = false := hO.free 2 rfl
  obtain ⟨c9_3_0, c9_3_1, lt9_3, y9_3, -⟩ := hO.k2 3 rfl
  obtain ⟨c9_4_0, c9_4_1, c9_4_2, c9_4_3, lt9_4, y9_4, -⟩ := hO.k4 4 rfl
  have HO := Lib.hid hO
  clear hO
  go_wp2_with (first | (with_reducible refine Own.stay (fn := Tryd.f43) ?_) | (first | (go_at_call 51; go_in) | (go_at_call 52; go_in) | (go_at_call 57; go_in)))
  try with_reducible refine Own.Stay.mk ?_
  have hO := HO.out
  clear HO hix9 hax9 ix9_0 ix9_1 ix9_2 ix9_3 ix9_4 ix9 c9_0_0 c9_0_1 c9_0_2 c9_0_3 lt9_0 y9_0 c9_1_23 c9_1_34 c9_1_104 c9_1_352 lt9_1 y9_1 c9_2_1 lt9_2 y9_2 c9_3_0 c9_3_1 lt9_3 y9_3 c9_4_0 c9_4_1 c9_4_2 c9_4_3 lt9_4 y9_4
  generalize hW : World.alloc _ _ = W2
  have hN : Own w0 W2 [row (wr.heap.size) 61 #[.iface 42 (vP sl), vI 7], row (cx) 33 #[vI 7, vU ri, vU rj, .bool true], row (pb) 252 PC, row (cs) 99 KC, row (ab) 61 #[.iface 42 (vP sl), vI 7], row (sl) 57 #[vN, .int .u8 4, bF, bF]] X := by
   rw [← hW]
   exact (((hO).set 0 rfl 0 _).set 0 rfl 3 _).alloc' _ (wr.heap.size) (by simp)
  clear hW hO
  generalize wr.heap.size = B1 at hN ⊢
  have hO := hN
  clear hN
  go_loopg [58] 1 (fun gf s58 wx => s58 = .int .i64 0 ∧ Own w0 wx [row (B1) 61 #[.iface 42 (vP sl), vI 7], row (cx) 33 #[vI 7, vU ri, vU rj, .bool true], row (pb) 252 PC, row (cs) 99 KC, row (ab) 61 #[.iface 42 (vP sl), vI 7], row (sl) 57 #[vN, .int .u8 4, bF, bF]] X)
  case atStart => exact ⟨rfl, hO⟩
  obtain ⟨rfl, hO⟩ := hrel
  obtain ⟨ix9, hix9, hax9, hjx9⟩ := hO.ix
  have ix9_0 : ix9 B1 = 0 := hjx9 0 _ _ rfl
  have ix9_1 : ix9 cx = 1 := hjx9 1 _ _ rfl
  have ix9_2 : ix9 pb = 2 := hjx9 2 _ _ rfl
  have ix9_3 : ix9 cs = 3 := hjx9 3 _ _ rfl
  have ix9_4 : ix9 ab = 4 := hjx9 4 _ _ rfl
  have ix9_5 : ix9 sl = 5 := hjx9 5 _ _ rfl
  clear hjx9
  obtain ⟨c9_0_0, c9_0_1, lt9_0, y9_0, pl9_0⟩ := hO.k2 0 rfl
  obtain ⟨c9_1_0, c9_1_1, c9_1_2, c9_1_3, lt9_1, y9_1, -⟩ := hO.k4 1 rfl
  have c9_2_23 : wr.cell? ⟨pb, 23, none⟩ = some (.int .u64 0) := hO.cell 2 rfl (23) (hk23)
  have c9_2_34 : wr.cell? ⟨pb, 34, none⟩ = some (.int .u8 0) := hO.cell 2 rfl (34) (hk34)
  have c9_2_104 : wr.cell? ⟨pb, 104, none⟩ = some (vP cs) := hO.cell 2 rfl (104) (hk104)
  have c9_2_352 : wr.cell? ⟨pb, 352, none⟩ = some (bF) := hO.cell 2 rfl (352) (hk352)
  have lt9_2 : pb < wr.heap.size := hO.lt 2 rfl
  have y9_2 : ∀ o, wr.frozen? ⟨pb, o, none⟩ = false := hO.free 2 rfl
  have c9_3_1 : wr.cell? ⟨cs, 1, none⟩ = some (vP qp) := hO.cell 3 rfl (1) (hpar)
  have lt9_3 : cs < wr.heap.size := hO.lt 3 rfl
  have y9_3 : ∀ o, wr.frozen? ⟨cs, o, none⟩ = false := hO.free 3 rfl
  obtain ⟨c9_4_0, c9_4_1, lt9_4, y9_4, pl9_4⟩ := hO.k2 4 rfl
  obtain ⟨c9_5_0, c9_5_1, c9_5_2, c9_5_3, lt9_5, y9_5, -⟩ := hO.k4 5 rfl
  have HO := Lib.hid hO
  clear hO
  go_wp2_with (first | (with_reducible refine Own.stay (fn := Tryd.f43) ?_) | (first | (go_at_call 51; go_in) | (go_at_call 52; go_in) | (go_at_call 57; go_in)))
  try with_reducible refine Own.Stay.mk ?_
  have hO := HO.out
  clear HO hix9 hax9 ix9_0 ix9_1 ix9_2 ix9_3 ix9_4 ix9_5 ix9 c9_0_0 c9_0_1 lt9_0 y9_0 pl9_0 c9_1_0 c9_1_1 c9_1_2 c9_1_3 lt9_1 y9_1 c9_2_23 c9_2_34 c9_2_104 c9_2_352 lt9_2 y9_2 c9_3_1 lt9_3 y9_3 c9_4_0 c9_4_1 lt9_4 y9_4 pl9_4 c9_5_0 c9_5_1 c9_5_2 c9_5_3 lt9_5 y9_5
  generalize hW : World.setCell _ _ _ = W4
  have hN : Own w0 W4 [row (B1) 61 #[.iface 42 (vP sl), vI 7], row (cx) 33 #[vI 7, vU ri, vU rj, .bool true], row (pb) 252 PC, row (cs) 99 KC, row (ab) 61 #[.iface 42 (vP sl), vI 7], row (sl) 57 #[vN, .int .u8 2, bF, bF]] X := by
   rw [← hW]
   exact (hO).set 5 rfl 1 _
  clear hW hO
  have hO := hN
  clear hN
  go_roundg 1
  case measure => omega
  case rel => exact Or.inr ⟨rfl, rfl, hO.sub [1, 2, 3, 4, 5] (by decide)⟩
 obtain ⟨c9_0_0, c9_0_1, c9_0_2, c9_0_3, lt9_0, y9_0, -⟩ := hO.k4 0 rfl
 obtain ⟨c9_3_0, c9_3_1, lt9_3, y9_3, -⟩ := hO.k2 3 rfl
 obtain ⟨c9_4_0, c9_4_1, c9_4_2, c9_4_3, lt9_4, y9_4, -⟩ := hO.k4 4 rfl
 have HO := Lib.hid hO
 clear hO
 go_wp2_with (first | (with_reducible refine Own.stay (fn := Tryd.f43) ?_) | (first | (go_at_call 51; go_in) | (go_at_call 52; go_in) | (go_at_call 57; go_in)))
 try with_reducible refine Own.Stay.mk ?_
 have hO := HO.out
 clear HO c9_0_0 c9_0_1 c9_0_2 c9_0_3 lt9_0 y9_0 c9_3_0 c9_3_1 lt9_3 y9_3 c9_4_0 c9_4_1 c9_4_2 c9_4_3 lt9_4 y9_4
 refine bodyPost_ret (v := .tuple #[]) ?_ rfl ⟨rfl, hO.sub [0, 1, 2, 3, 4] (by decide)⟩
 simp [results, Tryd.results43, go_sem]
def scanD1Post (pb : Nat) (PC : Array Value) (cs : Nat) (KC : Array Value) (qp cx ab sl : Nat) (ri rj : Int) (w0 : World) (X : Nat → Obj → Prop) (e : Ending) (w' : World) : Prop :=
 e = .returned (.tuple #[]) ∧ Own w0 w' [row (cx) 33 #[vI 7, vU ri, vU rj, .bool true], row (pb) 252 PC, row (cs) 99 KC, row (ab) 61 #[.iface 42 (vP sl), vI 7], row (sl) 57 #[vN, .int .u8 2, bF, bF]] X
set_option maxRecDepth 100000 in
set_option maxHeartbeats 1000000 in
theorem scanD1 (pb : Nat) (PC : Array Value) (cs : Nat) (KC : Array Value) (qp cx ab sl : Nat) (ri rj : Int) (w0 w : World) (X : Nat → Obj → Prop) (hO : Own w0 w [row (cx) 33 #[vI 0, vU ri, vU rj, bF], row (pb) 252 PC, row (cs) 99 KC, row (ab) 61 #[.iface 42 (vP sl), vI 7], row (sl) 57 #[vN, .int .u8 4, bF, bF]] X) (hk104 : PC[104]? = some (vP cs)) (hk23 : PC[23]? = some (.int .u64 0)) (hk34 : PC[34]? = some (.int .u8 0)) (hk352 : PC[352]? = some (bF)) (hpar : KC[1]? = some (vP qp)) :
  Calls Tryd.prog 37 #[vP cx, vP pb, .slice (some ⟨ab, 0, none⟩) 1 1] w (scanD1Post pb PC cs KC qp cx ab sl ri rj w0 X) := by
 go_enter Tryd.func37, Tryd.ntmps37
 obtain ⟨c9_0_0, c9_0_1, c9_0_2, c9_0_3, lt9_0, y9_0, -⟩ := hO.k4 0 rfl
 obtain ⟨c9_3_0, c9_3_1, lt9_3, y9_3, -⟩ := hO.k2 3 rfl
 obtain ⟨c9_4_0, c9_4_1, c9_4_2, c9_4_3, lt9_4, y9_4, -⟩ := hO.k4 4 rfl
 have HO := Lib.hid hO
 clear hO
 go_wp2_with (first | (with_reducible refine Own.stay (fn := Tryd.f37) ?_) | fail)
 try with_reducible refine Own.Stay.mk ?_
 have hO := HO.out
 clear HO c9_0_0 c9_0_1 c9_0_2 c9_0_3 lt9_0 y9_0 c9_3_0 c9_3_1 lt9_3 y9_3 c9_4_0 c9_4_1 c9_4_2 c9_4_3 lt9_4 y9_4
 have hL := hO.apart
 have hX := hO.apartX
 have HL := Lib.hid hL
 have HX := Lib.hid hX
 clear hL hX
 have hP9 := hO.pick [0, 1, 2, 3, 4] (by decide)
 have T9 := scanN1 pb PC cs KC qp cx ab sl ri rj _ _ _ hP9 hk104 hk23 hk34 hk352 hpar
 refine Calls.mono T9 ?_
 clear hP9 T9
 rintro e u1 ⟨rfl, hQ⟩
 have hN : Own w0 u1 [row (cx) 33 #[vI 7, vU ri, vU rj, .bool true], row (pb) 252 PC, row (cs) 99 KC, row (ab) 61 #[.iface 42 (vP sl), vI 7], row (sl) 57 #[vN, .int .u8 2, bF, bF]] X := hQ.back HL.out HX.out [] (by decide) (by decide)
 clear hQ HL HX hO
 have hO := hN
 clear hN
 obtain ⟨c9_0_0, c9_0_1, c9_0_2, c9_0_3, lt9_0, y9_0, -⟩ := hO.k4 0 rfl
 obtain ⟨c9_3_0, c9_3_1, lt9_3, y9_3, -⟩ := hO.k2 3 rfl
 obtain ⟨c9_4_0, c9_4_1, c9_4_2, c9_4_3, lt9_4, y9_4, -⟩ := hO.k4 4 rfl
 have HO := Lib.hid hO
 clear hO
 go_wp2_with (first | (with_reducible refine Own.stay (fn := Tryd.f37) ?_) | fail)
 try with_reducible refine Own.Stay.mk ?_
 have hO := HO.out
 clear HO c9_0_0 c9_0_1 c9_0_2 c9_0_3 lt9_0 y9_0 c9_3_0 c9_3_1 lt9_3 y9_3 c9_4_0 c9_4_1 c9_4_2 c9_4_3 lt9_4 y9_4
 refine bodyPost_ret (v := .tuple #[]) ?_ rfl ⟨rfl, hO.sub [0, 1, 2, 3, 4] (by decide)⟩
 simp [results, Tryd.results37, go_sem]
end Go.Proofs.YtikopplofkemlaaDoor.Use
