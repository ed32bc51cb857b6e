/- An array. No condition. -/
import Derived.Test.YtghofdhhhbbaaaaGreatDoorFnd
import Derived.Test.YtghofdhhhbbaaaaGreatDoorFndk
import Derived.Test.YtghofdhhhbbaaaaGreatDoorIts
import Derived.Test.YtghofdhhhbbaaaaGreatDoorIfm
import Derived.Test.YtghofdhhhbbaaaaGreatDoorSla
import Derived.Test.YtghofdhhhbbaaaaGreatDoorLoop
import Derived.Test.YtghofdhhhbbaaaaGreatDoorMini
import Derived.Test.YtghofdhhhbbaaaaGreatDoorAppL
import Derived.Test.YtghofdhhhbbaaaaGreatDoorApp
import Derived.Test.YtghofdhhhbbaaaaGreatDoorOwnK
import Derived.Test.YtghofdhhhbbaaaaGreatDoorOwn
import Derived.Test.YtghofdhhhbbaaaaGreatDoorDeepCells
import Derived.Test.YtghofdhhhbbaaaaGreatDoorRows
import Derived.Test.YtghofdhhhbbaaaaGreatDoorLive
namespace Go.Proofs.YtghofdhhhbbaaaaGreatDoor.Use
open Go.ChangeShapes Go.WideShapes Go.ChangeAt Go.RowKit Go.Sort Own
set_option linter.unusedVariables false
def fndAPost (fb mx mb : Nat) (lv : Int) (ab ib ci : Nat) (IL : List Value) (mm tt ob pr cp vb : Nat) (w0 : World) (X : Nat → Obj → Prop) (e : Ending) (w' : World) : Prop :=
  e = .returned (.bool true) ∧ Own w0 w' [row (fb) 222 #[.func (Fn.func 39) #[] #[.pointer (some ⟨fb, 0, none⟩), .pointer (some ⟨mx, 0, none⟩)]], row (mx) 246 #[.map (some mb)], ((mb, .map (imA [(202, ob), (205, ab)]) 2) : Rw), row (ab) 207 #[.slice (some ⟨ib, 0, none⟩) (mm + 1 + tt) (mm + 1 + tt + ci), .int .i32 0, .int .i32 0, .bool false, .bool false], row (ib) 29 (full exZ IL ci), row (ob) 204 #[.slice (some ⟨pr, 0, none⟩) 1 (1 + cp), .int .i32 0, .int .i32 0, .bool false, .bool false], row (pr) 52 (full prZ [.pointer none, .nilIface, .int .i32 0, .iface 56 (.pointer (some ⟨vb, 0, none⟩)), .int .i32 0, .nilIface, .int .i32 0, .slice none 0 0, .int .i32 0, .int .i32 0, .int .u8 5, .int .u8 0] cp)] X
set_option maxRecDepth 100000 in
set_option maxHeartbeats 2000000 in
theorem fndA (fb mx mb : Nat) (lv : Int) (ab ib ci : Nat) (IL : List Value) (mm tt ob pr cp vb : Nat) (w0 w : World) (X : Nat → Obj → Prop) (hO : Own w0 w [row (fb) 222 #[.func (Fn.func 39) #[] #[.pointer (some ⟨fb, 0, none⟩), .pointer (some ⟨mx, 0, none⟩)]], row (mx) 246 #[.map (some mb)], ((mb, .map (imA []) 0) : Rw), row (ab) 207 #[.slice (some ⟨ib, 0, none⟩) (mm + 1 + tt) (mm + 1 + tt + ci), .int .i32 0, .int .i32 0, .bool false, .bool false], row (ib) 29 (full exZ IL ci), row (ob) 204 #[.slice (some ⟨pr, 0, none⟩) 1 (1 + cp), .int .i32 0, .int .i32 0, .bool false, .bool false], row (pr) 52 (full prZ [.pointer none, .nilIface, .int .i32 0, .iface 56 (.pointer (some ⟨vb, 0, none⟩)), .int .i32 0, .nilIface, .int .i32 0, .slice none 0 0, .int .i32 0, .int .i32 0, .int .u8 5, .int .u8 0] cp)] X) (hI : ItP IL mm ob (mm + 1 + tt)) (hm4 : mm ≤ 4096) (ht4 : tt ≤ 4096) :
    Calls Tryz.prog 39 #[.agg #[.iface 205 (.pointer (some ⟨ab, 0, none⟩)), .int .i32 lv], .pointer (some ⟨fb, 0, none⟩), .pointer (some ⟨mx, 0, none⟩)] w (fndAPost fb mx mb lv ab ib ci IL mm tt ob pr cp vb w0 X) := by
  go_enter Tryz.func39, Tryz.ntmps39
  have HI := Lib.hid hI
  clear hI
  have hm8 : (mm : Int) ≤ 4096 := by omega
  have ht8 : (tt : Int) ≤ 4096 := by omega
  have hm7 : (0 : Int) ≤ (mm : Int) := by omega
  have ht7 : (0 : Int) ≤ (tt : Int) := by omega
  obtain ⟨c9_0_0, lt9_0, y9_0, -⟩ := hO.k1 0 rfl
  obtain ⟨c9_1_0, lt9_1, y9_1, -⟩ := hO.k1 1 rfl
  obtain ⟨c9_3_0, c9_3_1, c9_3_2, c9_3_3, c9_3_4, lt9_3, y9_3, -⟩ := hO.k5 3 rfl
  obtain ⟨c9_5_0, c9_5_1, c9_5_2, c9_5_3, c9_5_4, lt9_5, y9_5, -⟩ := hO.k5 5 rfl
  have HO := Lib.hid hO
  clear hO
  go_wp2_with (first | (with_reducible refine Own.stay (fn := Tryz.f39) ?_) | fail)
  try with_reducible refine Own.Stay.mk ?_
  have hO := HO.out
  clear HO c9_0_0 lt9_0 y9_0 c9_1_0 lt9_1 y9_1 c9_3_0 c9_3_1 c9_3_2 c9_3_3 c9_3_4 lt9_3 y9_3 c9_5_0 c9_5_1 c9_5_2 c9_5_3 c9_5_4 lt9_5 y9_5
  generalize hW : World.alloc _ _ = W2
  have hN : Own w0 W2 [row (w.heap.size) 29 #[.iface 205 (.pointer (some ⟨ab, 0, none⟩)), .int .i32 lv], row (fb) 222 #[.func (Fn.func 39) #[] #[.pointer (some ⟨fb, 0, none⟩), .pointer (some ⟨mx, 0, none⟩)]], row (mx) 246 #[.map (some mb)], ((mb, .map (imA []) 0) : Rw), row (ab) 207 #[.slice (some ⟨ib, 0, none⟩) (mm + 1 + tt) (mm + 1 + tt + ci), .int .i32 0, .int .i32 0, .bool false, .bool false], row (ib) 29 (full exZ IL ci), row (ob) 204 #[.slice (some ⟨pr, 0, none⟩) 1 (1 + cp), .int .i32 0, .int .i32 0, .bool false, .bool false], row (pr) 52 (full prZ [.pointer none, .nilIface, .int .i32 0, .iface 56 (.pointer (some ⟨vb, 0, none⟩)), .int .i32 0, .nilIface, .int .i32 0, .slice none 0 0, .int .i32 0, .int .i32 0, .int .u8 5, .int .u8 0] cp)] X := by
    rw [← hW]
    exact (hO).alloc' _ (w.heap.size) (by simp)
  clear hW hO
  generalize w.heap.size = B1 at hN ⊢
  have hO := hN
  clear hN
  go_loopg [5, 39] (mm + 1 + tt) (fun gf s5 s39 wx => ∃ j : Nat, j + gf = mm + 1 + tt ∧ s39 = .int .i64 (j : Int) ∧ ((j ≤ mm ∧ s5 = .bool false ∧ Own w0 wx [row (B1) 29 #[.iface 205 (.pointer (some ⟨ab, 0, none⟩)), .int .i32 lv], row (fb) 222 #[.func (Fn.func 39) #[] #[.pointer (some ⟨fb, 0, none⟩), .pointer (some ⟨mx, 0, none⟩)]], row (mx) 246 #[.map (some mb)], ((mb, .map (imA []) 0) : Rw), row (ab) 207 #[.slice (some ⟨ib, 0, none⟩) (mm + 1 + tt) (mm + 1 + tt + ci), .int .i32 0, .int .i32 0, .bool false, .bool false], row (ib) 29 (full exZ IL ci), row (ob) 204 #[.slice (some ⟨pr, 0, none⟩) 1 (1 + cp), .int .i32 0, .int .i32 0, .bool false, .bool false], row (pr) 52 (full prZ [.pointer none, .nilIface, .int .i32 0, .iface 56 (.pointer (some ⟨vb, 0, none⟩)), .int .i32 0, .nilIface, .int .i32 0, .slice none 0 0, .int .i32 0, .int .i32 0, .int .u8 5, .int .u8 0] cp)] X) ∨ (mm < j ∧ s5 = .bool true ∧ Own w0 wx [row (B1) 29 #[.iface 205 (.pointer (some ⟨ab, 0, none⟩)), .int .i32 lv], row (fb) 222 #[.func (Fn.func 39) #[] #[.pointer (some ⟨fb, 0, none⟩), .pointer (some ⟨mx, 0, none⟩)]], row (mx) 246 #[.map (some mb)], ((mb, .map (imA [(202, ob)]) 1) : Rw), row (ab) 207 #[.slice (some ⟨ib, 0, none⟩) (mm + 1 + tt) (mm + 1 + tt + ci), .int .i32 0, .int .i32 0, .bool false, .bool false], row (ib) 29 (full exZ IL ci), row (ob) 204 #[.slice (some ⟨pr, 0, none⟩) 1 (1 + cp), .int .i32 0, .int .i32 0, .bool false, .bool false], row (pr) 52 (full prZ [.pointer none, .nilIface, .int .i32 0, .iface 56 (.pointer (some ⟨vb, 0, none⟩)), .int .i32 0, .nilIface, .int .i32 0, .slice none 0 0, .int .i32 0, .int .i32 0, .int .u8 5, .int .u8 0] cp)] X)))
  case atStart => exact ⟨0, by omega, rfl, Or.inl ⟨by omega, rfl, hO⟩⟩
  obtain ⟨j, hjn, rfl, ⟨hjm, rfl, hO⟩ | ⟨hjm, rfl, hO⟩⟩ := hrel
  · skip
    by_cases him : j = mm
    · skip
      obtain ⟨gq, rfl⟩ : ∃ gq, gk = gq + 1 := ⟨gk - 1, by omega⟩
      obtain rfl : mm = j := him.symm
      have hlt : mm < mm + 1 + tt := by omega
      have hlt9 : (mm : Int) < (mm : Int) + 1 + (tt : Int) := by omega
      have hj8 : (0 : Int) ≤ (mm : Int) := by omega
      have hj7 : (mm : Int) ≤ 8193 := by omega
      obtain ⟨ix9, hix9, hax9, hjx9⟩ := hO.ix
      have ix9_0 : ix9 B1 = 0 := hjx9 0 _ _ rfl
      have ix9_1 : ix9 fb = 1 := hjx9 1 _ _ rfl
      have ix9_2 : ix9 mx = 2 := hjx9 2 _ _ rfl
      have ix9_3 : ix9 mb = 3 := hjx9 3 _ _ rfl
      have ix9_4 : ix9 ab = 4 := hjx9 4 _ _ rfl
      have ix9_5 : ix9 ib = 5 := hjx9 5 _ _ rfl
      have ix9_6 : ix9 ob = 6 := hjx9 6 _ _ rfl
      have ix9_7 : ix9 pr = 7 := hjx9 7 _ _ rfl
      clear hjx9
      obtain ⟨c9_0_0, c9_0_1, lt9_0, y9_0, pl9_0⟩ := hO.k2 0 rfl
      obtain ⟨c9_1_0, lt9_1, y9_1, -⟩ := hO.k1 1 rfl
      obtain ⟨c9_2_0, lt9_2, y9_2, -⟩ := hO.k1 2 rfl
      obtain ⟨c9_4_0, c9_4_1, c9_4_2, c9_4_3, c9_4_4, lt9_4, y9_4, -⟩ := hO.k5 4 rfl
      have pl9_5 : Base.plainAt wr (ib) = true := hO.plain 5 rfl
      have c9_5_mm_2 : wr.cell? ⟨ib, mm * 2, none⟩ = some (.iface 202 (.pointer (some ⟨ob, 0, none⟩))) := hO.cell 5 rfl (mm * 2) ((full_at HI.out.a0))
      have c9_5_mm_2_1 : wr.cell? ⟨ib, mm * 2 + 1, none⟩ = some (.int .i32 0) := hO.cell 5 rfl (mm * 2 + 1) ((full_at HI.out.a1))
      have lt9_5 : ib < wr.heap.size := hO.lt 5 rfl
      have y9_5 : ∀ o, wr.frozen? ⟨ib, o, none⟩ = false := hO.free 5 rfl
      obtain ⟨c9_6_0, c9_6_1, c9_6_2, c9_6_3, c9_6_4, lt9_6, y9_6, -⟩ := hO.k5 6 rfl
      have c9_7_0 : wr.cell? ⟨pr, 0, none⟩ = some (.pointer none) := hO.cell 7 rfl (0) ((full_at rfl))
      have c9_7_1 : wr.cell? ⟨pr, 1, none⟩ = some (.nilIface) := hO.cell 7 rfl (1) ((full_at rfl))
      have c9_7_2 : wr.cell? ⟨pr, 2, none⟩ = some (.int .i32 0) := hO.cell 7 rfl (2) ((full_at rfl))
      have c9_7_3 : wr.cell? ⟨pr, 3, none⟩ = some (.iface 56 (.pointer (some ⟨vb, 0, none⟩))) := hO.cell 7 rfl (3) ((full_at rfl))
      have c9_7_4 : wr.cell? ⟨pr, 4, none⟩ = some (.int .i32 0) := hO.cell 7 rfl (4) ((full_at rfl))
      have c9_7_5 : wr.cell? ⟨pr, 5, none⟩ = some (.nilIface) := hO.cell 7 rfl (5) ((full_at rfl))
      have c9_7_6 : wr.cell? ⟨pr, 6, none⟩ = some (.int .i32 0) := hO.cell 7 rfl (6) ((full_at rfl))
      have c9_7_7 : wr.cell? ⟨pr, 7, none⟩ = some (.slice none 0 0) := hO.cell 7 rfl (7) ((full_at rfl))
      have c9_7_8 : wr.cell? ⟨pr, 8, none⟩ = some (.int .i32 0) := hO.cell 7 rfl (8) ((full_at rfl))
      have c9_7_9 : wr.cell? ⟨pr, 9, none⟩ = some (.int .i32 0) := hO.cell 7 rfl (9) ((full_at rfl))
      have c9_7_10 : wr.cell? ⟨pr, 10, none⟩ = some (.int .u8 5) := hO.cell 7 rfl (10) ((full_at rfl))
      have c9_7_11 : wr.cell? ⟨pr, 11, none⟩ = some (.int .u8 0) := hO.cell 7 rfl (11) ((full_at rfl))
      have lt9_7 : pr < wr.heap.size := hO.lt 7 rfl
      have y9_7 : ∀ o, wr.frozen? ⟨pr, o, none⟩ = false := hO.free 7 rfl
      have HO := Lib.hid hO
      clear hO
      go_wp2_with (first | (with_reducible refine Own.stay (fn := Tryz.f39) ?_) | fail)
      try with_reducible refine Own.Stay.mk ?_
      have hO := HO.out
      clear HO hix9 hax9 ix9_0 ix9_1 ix9_2 ix9_3 ix9_4 ix9_5 ix9_6 ix9_7 ix9 c9_0_0 c9_0_1 lt9_0 y9_0 pl9_0 c9_1_0 lt9_1 y9_1 c9_2_0 lt9_2 y9_2 c9_4_0 c9_4_1 c9_4_2 c9_4_3 c9_4_4 lt9_4 y9_4 pl9_5 c9_5_mm_2 c9_5_mm_2_1 lt9_5 y9_5 c9_6_0 c9_6_1 c9_6_2 c9_6_3 c9_6_4 lt9_6 y9_6 c9_7_0 c9_7_1 c9_7_2 c9_7_3 c9_7_4 c9_7_5 c9_7_6 c9_7_7 c9_7_8 c9_7_9 c9_7_10 c9_7_11 lt9_7 y9_7
      generalize hW : World.alloc _ _ = W4
      have hN : Own w0 W4 [row (wr.heap.size) 29 #[.iface 202 (.pointer (some ⟨ob, 0, none⟩)), .int .i32 0], row (B1) 29 #[.iface 205 (.pointer (some ⟨ab, 0, none⟩)), .int .i32 lv], row (fb) 222 #[.func (Fn.func 39) #[] #[.pointer (some ⟨fb, 0, none⟩), .pointer (some ⟨mx, 0, none⟩)]], row (mx) 246 #[.map (some mb)], ((mb, .map (imA []) 0) : Rw), row (ab) 207 #[.slice (some ⟨ib, 0, none⟩) (mm + 1 + tt) (mm + 1 + tt + ci), .int .i32 0, .int .i32 0, .bool false, .bool false], row (ib) 29 (full exZ IL ci), row (ob) 204 #[.slice (some ⟨pr, 0, none⟩) 1 (1 + cp), .int .i32 0, .int .i32 0, .bool false, .bool false], row (pr) 52 (full prZ [.pointer none, .nilIface, .int .i32 0, .iface 56 (.pointer (some ⟨vb, 0, none⟩)), .int .i32 0, .nilIface, .int .i32 0, .slice none 0 0, .int .i32 0, .int .i32 0, .int .u8 5, .int .u8 0] cp)] X := by
        rw [← hW]
        exact (hO).alloc' _ (wr.heap.size) (by simp)
      clear hW hO
      generalize wr.heap.size = B3 at hN ⊢
      have hO := hN
      clear hN
      have hL := hO.apart
      have hX := hO.apartX
      have HL := Lib.hid hL
      have HX := Lib.hid hX
      clear hL hX
      have hP9 := hO.pick [3, 4, 7, 8] (by decide)
      have T9 := fndO fb mx mb ob 0 pr cp vb _ _ _ hP9 
      refine Calls.mono T9 ?_
      clear hP9 T9
      rintro e uw5 ⟨rfl, hQ⟩
      have hN : Own w0 uw5 [row (mx) 246 #[.map (some mb)], ((mb, .map (imA [(202, ob)]) 1) : Rw), row (ob) 204 #[.slice (some ⟨pr, 0, none⟩) 1 (1 + cp), .int .i32 0, .int .i32 0, .bool false, .bool false], row (pr) 52 (full prZ [.pointer none, .nilIface, .int .i32 0, .iface 56 (.pointer (some ⟨vb, 0, none⟩)), .int .i32 0, .nilIface, .int .i32 0, .slice none 0 0, .int .i32 0, .int .i32 0, .int .u8 5, .int .u8 0] cp), row (B3) 29 #[.iface 202 (.pointer (some ⟨ob, 0, none⟩)), .int .i32 0], row (B1) 29 #[.iface 205 (.pointer (some ⟨ab, 0, none⟩)), .int .i32 lv], row (fb) 222 #[.func (Fn.func 39) #[] #[.pointer (some ⟨fb, 0, none⟩), .pointer (some ⟨mx, 0, none⟩)]], row (ab) 207 #[.slice (some ⟨ib, 0, none⟩) (mm + 1 + tt) (mm + 1 + tt + ci), .int .i32 0, .int .i32 0, .bool false, .bool false], row (ib) 29 (full exZ IL ci)] X := hQ.back HL.out HX.out [0, 1, 2, 5, 6] (by decide) (by decide)
      clear hQ HL HX hO
      have hO := hN
      clear hN
      obtain ⟨c9_0_0, lt9_0, y9_0, -⟩ := hO.k1 0 rfl
      obtain ⟨c9_2_0, c9_2_1, c9_2_2, c9_2_3, c9_2_4, lt9_2, y9_2, -⟩ := hO.k5 2 rfl
      obtain ⟨c9_4_0, c9_4_1, lt9_4, y9_4, -⟩ := hO.k2 4 rfl
      obtain ⟨c9_5_0, c9_5_1, lt9_5, y9_5, -⟩ := hO.k2 5 rfl
      obtain ⟨c9_6_0, lt9_6, y9_6, -⟩ := hO.k1 6 rfl
      obtain ⟨c9_7_0, c9_7_1, c9_7_2, c9_7_3, c9_7_4, lt9_7, y9_7, -⟩ := hO.k5 7 rfl
      have HO := Lib.hid hO
      clear hO
      go_wp2_with (first | (with_reducible refine Own.stay (fn := Tryz.f39) ?_) | fail)
      try with_reducible refine Own.Stay.mk ?_
      have hO := HO.out
      clear HO c9_0_0 lt9_0 y9_0 c9_2_0 c9_2_1 c9_2_2 c9_2_3 c9_2_4 lt9_2 y9_2 c9_4_0 c9_4_1 lt9_4 y9_4 c9_5_0 c9_5_1 lt9_5 y9_5 c9_6_0 lt9_6 y9_6 c9_7_0 c9_7_1 c9_7_2 c9_7_3 c9_7_4 lt9_7 y9_7
      go_roundg gq
      case measure => omega
      case rel => exact ⟨mm + 1, by omega, by first | rfl | simp, Or.inr ⟨by omega, rfl, hO.sub [5, 6, 0, 1, 7, 8, 2, 3] (by decide)⟩⟩
    · skip
      have him2 : j < mm := by omega
      · skip
        obtain ⟨gq, rfl⟩ : ∃ gq, gk = gq + 1 := ⟨gk - 1, by omega⟩
        have hlt : j < mm + 1 + tt := by omega
        have hlt9 : (j : Int) < (mm : Int) + 1 + (tt : Int) := by omega
        have hj8 : (0 : Int) ≤ (j : Int) := by omega
        have hj7 : (j : Int) ≤ 8193 := by omega
        obtain ⟨vn, hv0, hv1⟩ := HI.out.id him hlt
        clear him
        obtain ⟨ix9, hix9, hax9, hjx9⟩ := hO.ix
        have ix9_0 : ix9 B1 = 0 := hjx9 0 _ _ rfl
        have ix9_1 : ix9 fb = 1 := hjx9 1 _ _ rfl
        have ix9_2 : ix9 mx = 2 := hjx9 2 _ _ rfl
        have ix9_3 : ix9 mb = 3 := hjx9 3 _ _ rfl
        have ix9_4 : ix9 ab = 4 := hjx9 4 _ _ rfl
        have ix9_5 : ix9 ib = 5 := hjx9 5 _ _ rfl
        have ix9_6 : ix9 ob = 6 := hjx9 6 _ _ rfl
        have ix9_7 : ix9 pr = 7 := hjx9 7 _ _ rfl
        clear hjx9
        obtain ⟨c9_0_0, c9_0_1, lt9_0, y9_0, pl9_0⟩ := hO.k2 0 rfl
        obtain ⟨c9_1_0, lt9_1, y9_1, -⟩ := hO.k1 1 rfl
        obtain ⟨c9_2_0, lt9_2, y9_2, -⟩ := hO.k1 2 rfl
        obtain ⟨c9_4_0, c9_4_1, c9_4_2, c9_4_3, c9_4_4, lt9_4, y9_4, -⟩ := hO.k5 4 rfl
        have pl9_5 : Base.plainAt wr (ib) = true := hO.plain 5 rfl
        have c9_5_j_2 : wr.cell? ⟨ib, j * 2, none⟩ = some (.iface 56 (.pointer (some ⟨vn, 0, none⟩))) := hO.cell 5 rfl (j * 2) ((full_at hv0))
        have c9_5_j_2_1 : wr.cell? ⟨ib, j * 2 + 1, none⟩ = some (.int .i32 0) := hO.cell 5 rfl (j * 2 + 1) ((full_at hv1))
        have lt9_5 : ib < wr.heap.size := hO.lt 5 rfl
        have y9_5 : ∀ o, wr.frozen? ⟨ib, o, none⟩ = false := hO.free 5 rfl
        obtain ⟨c9_6_0, c9_6_1, c9_6_2, c9_6_3, c9_6_4, lt9_6, y9_6, -⟩ := hO.k5 6 rfl
        have c9_7_0 : wr.cell? ⟨pr, 0, none⟩ = some (.pointer none) := hO.cell 7 rfl (0) ((full_at rfl))
        have c9_7_1 : wr.cell? ⟨pr, 1, none⟩ = some (.nilIface) := hO.cell 7 rfl (1) ((full_at rfl))
        have c9_7_2 : wr.cell? ⟨pr, 2, none⟩ = some (.int .i32 0) := hO.cell 7 rfl (2) ((full_at rfl))
        have c9_7_3 : wr.cell? ⟨pr, 3, none⟩ = some (.iface 56 (.pointer (some ⟨vb, 0, none⟩))) := hO.cell 7 rfl (3) ((full_at rfl))
        have c9_7_4 : wr.cell? ⟨pr, 4, none⟩ = some (.int .i32 0) := hO.cell 7 rfl (4) ((full_at rfl))
        have c9_7_5 : wr.cell? ⟨pr, 5, none⟩ = some (.nilIface) := hO.cell 7 rfl (5) ((full_at rfl))
        have c9_7_6 : wr.cell? ⟨pr, 6, none⟩ = some (.int .i32 0) := hO.cell 7 rfl (6) ((full_at rfl))
        have c9_7_7 : wr.cell? ⟨pr, 7, none⟩ = some (.slice none 0 0) := hO.cell 7 rfl (7) ((full_at rfl))
        have c9_7_8 : wr.cell? ⟨pr, 8, none⟩ = some (.int .i32 0) := hO.cell 7 rfl (8) ((full_at rfl))
        have c9_7_9 : wr.cell? ⟨pr, 9, none⟩ = some (.int .i32 0) := hO.cell 7 rfl (9) ((full_at rfl))
        have c9_7_10 : wr.cell? ⟨pr, 10, none⟩ = some (.int .u8 5) := hO.cell 7 rfl (10) ((full_at rfl))
        have c9_7_11 : wr.cell? ⟨pr, 11, none⟩ = some (.int .u8 0) := hO.cell 7 rfl (11) ((full_at rfl))
        have lt9_7 : pr < wr.heap.size := hO.lt 7 rfl
        have y9_7 : ∀ o, wr.frozen? ⟨pr, o, none⟩ = false := hO.free 7 rfl
        have HO := Lib.hid hO
        clear hO
        go_wp2_with (first | (with_reducible refine Own.stay (fn := Tryz.f39) ?_) | fail)
        try with_reducible refine Own.Stay.mk ?_
        have hO := HO.out
        clear HO hix9 hax9 ix9_0 ix9_1 ix9_2 ix9_3 ix9_4 ix9_5 ix9_6 ix9_7 ix9 c9_0_0 c9_0_1 lt9_0 y9_0 pl9_0 c9_1_0 lt9_1 y9_1 c9_2_0 lt9_2 y9_2 c9_4_0 c9_4_1 c9_4_2 c9_4_3 c9_4_4 lt9_4 y9_4 pl9_5 c9_5_j_2 c9_5_j_2_1 lt9_5 y9_5 c9_6_0 c9_6_1 c9_6_2 c9_6_3 c9_6_4 lt9_6 y9_6 c9_7_0 c9_7_1 c9_7_2 c9_7_3 c9_7_4 c9_7_5 c9_7_6 c9_7_7 c9_7_8 c9_7_9 c9_7_10 c9_7_11 lt9_7 y9_7
        generalize hW : World.alloc _ _ = W7
        have hN : Own w0 W7 [row (wr.heap.size) 29 #[.iface 56 (.pointer (some ⟨vn, 0, none⟩)), .int .i32 0], row (B1) 29 #[.iface 205 (.pointer (some ⟨ab, 0, none⟩)), .int .i32 lv], row (fb) 222 #[.func (Fn.func 39) #[] #[.pointer (some ⟨fb, 0, none⟩), .pointer (some ⟨mx, 0, none⟩)]], row (mx) 246 #[.map (some mb)], ((mb, .map (imA []) 0) : Rw), row (ab) 207 #[.slice (some ⟨ib, 0, none⟩) (mm + 1 + tt) (mm + 1 + tt + ci), .int .i32 0, .int .i32 0, .bool false, .bool false], row (ib) 29 (full exZ IL ci), row (ob) 204 #[.slice (some ⟨pr, 0, none⟩) 1 (1 + cp), .int .i32 0, .int .i32 0, .bool false, .bool false], row (pr) 52 (full prZ [.pointer none, .nilIface, .int .i32 0, .iface 56 (.pointer (some ⟨vb, 0, none⟩)), .int .i32 0, .nilIface, .int .i32 0, .slice none 0 0, .int .i32 0, .int .i32 0, .int .u8 5, .int .u8 0] cp)] X := by
          rw [← hW]
          exact (hO).alloc' _ (wr.heap.size) (by simp)
        clear hW hO
        generalize wr.heap.size = B6 at hN ⊢
        have hO := hN
        clear hN
        have hL := hO.apart
        have hX := hO.apartX
        have HL := Lib.hid hL
        have HX := Lib.hid hX
        clear hL hX
        have hP9 := hO.pick [] (by decide)
        have T9 := fndI fb mx vn 0 _ _ _ hP9 
        refine Calls.mono T9 ?_
        clear hP9 T9
        rintro e uw8 ⟨rfl, hQ⟩
        have hN : Own w0 uw8 [row (B6) 29 #[.iface 56 (.pointer (some ⟨vn, 0, none⟩)), .int .i32 0], row (B1) 29 #[.iface 205 (.pointer (some ⟨ab, 0, none⟩)), .int .i32 lv], row (fb) 222 #[.func (Fn.func 39) #[] #[.pointer (some ⟨fb, 0, none⟩), .pointer (some ⟨mx, 0, none⟩)]], row (mx) 246 #[.map (some mb)], ((mb, .map (imA []) 0) : Rw), row (ab) 207 #[.slice (some ⟨ib, 0, none⟩) (mm + 1 + tt) (mm + 1 + tt + ci), .int .i32 0, .int .i32 0, .bool false, .bool false], row (ib) 29 (full exZ IL ci), row (ob) 204 #[.slice (some ⟨pr, 0, none⟩) 1 (1 + cp), .int .i32 0, .int .i32 0, .bool false, .bool false], row (pr) 52 (full prZ [.pointer none, .nilIface, .int .i32 0, .iface 56 (.pointer (some ⟨vb, 0, none⟩)), .int .i32 0, .nilIface, .int .i32 0, .slice none 0 0, .int .i32 0, .int .i32 0, .int .u8 5, .int .u8 0] cp)] X := hQ.back HL.out HX.out [0, 1, 2, 3, 4, 5, 6, 7, 8] (by decide) (by decide)
        clear hQ HL HX hO
        have hO := hN
        clear hN
        obtain ⟨c9_0_0, c9_0_1, lt9_0, y9_0, -⟩ := hO.k2 0 rfl
        obtain ⟨c9_1_0, c9_1_1, lt9_1, y9_1, -⟩ := hO.k2 1 rfl
        obtain ⟨c9_2_0, lt9_2, y9_2, -⟩ := hO.k1 2 rfl
        obtain ⟨c9_3_0, lt9_3, y9_3, -⟩ := hO.k1 3 rfl
        obtain ⟨c9_5_0, c9_5_1, c9_5_2, c9_5_3, c9_5_4, lt9_5, y9_5, -⟩ := hO.k5 5 rfl
        obtain ⟨c9_7_0, c9_7_1, c9_7_2, c9_7_3, c9_7_4, lt9_7, y9_7, -⟩ := hO.k5 7 rfl
        have HO := Lib.hid hO
        clear hO
        go_wp2_with (first | (with_reducible refine Own.stay (fn := Tryz.f39) ?_) | fail)
        try with_reducible refine Own.Stay.mk ?_
        have hO := HO.out
        clear HO c9_0_0 c9_0_1 lt9_0 y9_0 c9_1_0 c9_1_1 lt9_1 y9_1 c9_2_0 lt9_2 y9_2 c9_3_0 lt9_3 y9_3 c9_5_0 c9_5_1 c9_5_2 c9_5_3 c9_5_4 lt9_5 y9_5 c9_7_0 c9_7_1 c9_7_2 c9_7_3 c9_7_4 lt9_7 y9_7
        go_roundg gq
        case measure => omega
        case rel => exact ⟨j + 1, by omega, by first | rfl | simp, Or.inl ⟨by omega, rfl, hO.sub [1, 2, 3, 4, 5, 6, 7, 8] (by decide)⟩⟩
  · skip
    by_cases hlt : j < mm + 1 + tt
    · skip
      have him : ¬ j = mm := by omega
      · skip
        obtain ⟨gq, rfl⟩ : ∃ gq, gk = gq + 1 := ⟨gk - 1, by omega⟩
        have hlt : j < mm + 1 + tt := by omega
        have hlt9 : (j : Int) < (mm : Int) + 1 + (tt : Int) := by omega
        have hj8 : (0 : Int) ≤ (j : Int) := by omega
        have hj7 : (j : Int) ≤ 8193 := by omega
        obtain ⟨vn, hv0, hv1⟩ := HI.out.id him hlt
        clear him
        obtain ⟨ix9, hix9, hax9, hjx9⟩ := hO.ix
        have ix9_0 : ix9 B1 = 0 := hjx9 0 _ _ rfl
        have ix9_1 : ix9 fb = 1 := hjx9 1 _ _ rfl
        have ix9_2 : ix9 mx = 2 := hjx9 2 _ _ rfl
        have ix9_3 : ix9 mb = 3 := hjx9 3 _ _ rfl
        have ix9_4 : ix9 ab = 4 := hjx9 4 _ _ rfl
        have ix9_5 : ix9 ib = 5 := hjx9 5 _ _ rfl
        have ix9_6 : ix9 ob = 6 := hjx9 6 _ _ rfl
        have ix9_7 : ix9 pr = 7 := hjx9 7 _ _ rfl
        clear hjx9
        obtain ⟨c9_0_0, c9_0_1, lt9_0, y9_0, pl9_0⟩ := hO.k2 0 rfl
        obtain ⟨c9_1_0, lt9_1, y9_1, -⟩ := hO.k1 1 rfl
        obtain ⟨c9_2_0, lt9_2, y9_2, -⟩ := hO.k1 2 rfl
        obtain ⟨c9_4_0, c9_4_1, c9_4_2, c9_4_3, c9_4_4, lt9_4, y9_4, -⟩ := hO.k5 4 rfl
        have pl9_5 : Base.plainAt wr (ib) = true := hO.plain 5 rfl
        have c9_5_j_2 : wr.cell? ⟨ib, j * 2, none⟩ = some (.iface 56 (.pointer (some ⟨vn, 0, none⟩))) := hO.cell 5 rfl (j * 2) ((full_at hv0))
        have c9_5_j_2_1 : wr.cell? ⟨ib, j * 2 + 1, none⟩ = some (.int .i32 0) := hO.cell 5 rfl (j * 2 + 1) ((full_at hv1))
        have lt9_5 : ib < wr.heap.size := hO.lt 5 rfl
        have y9_5 : ∀ o, wr.frozen? ⟨ib, o, none⟩ = false := hO.free 5 rfl
        obtain ⟨c9_6_0, c9_6_1, c9_6_2, c9_6_3, c9_6_4, lt9_6, y9_6, -⟩ := hO.k5 6 rfl
        have c9_7_0 : wr.cell? ⟨pr, 0, none⟩ = some (.pointer none) := hO.cell 7 rfl (0) ((full_at rfl))
        have c9_7_1 : wr.cell? ⟨pr, 1, none⟩ = some (.nilIface) := hO.cell 7 rfl (1) ((full_at rfl))
        have c9_7_2 : wr.cell? ⟨pr, 2, none⟩ = some (.int .i32 0) := hO.cell 7 rfl (2) ((full_at rfl))
        have c9_7_3 : wr.cell? ⟨pr, 3, none⟩ = some (.iface 56 (.pointer (some ⟨vb, 0, none⟩))) := hO.cell 7 rfl (3) ((full_at rfl))
        have c9_7_4 : wr.cell? ⟨pr, 4, none⟩ = some (.int .i32 0) := hO.cell 7 rfl (4) ((full_at rfl))
        have c9_7_5 : wr.cell? ⟨pr, 5, none⟩ = some (.nilIface) := hO.cell 7 rfl (5) ((full_at rfl))
        have c9_7_6 : wr.cell? ⟨pr, 6, none⟩ = some (.int .i32 0) := hO.cell 7 rfl (6) ((full_at rfl))
        have c9_7_7 : wr.cell? ⟨pr, 7, none⟩ = some (.slice none 0 0) := hO.cell 7 rfl (7) ((full_at rfl))
        have c9_7_8 : wr.cell? ⟨pr, 8, none⟩ = some (.int .i32 0) := hO.cell 7 rfl (8) ((full_at rfl))
        have c9_7_9 : wr.cell? ⟨pr, 9, none⟩ = some (.int .i32 0) := hO.cell 7 rfl (9) ((full_at rfl))
        have c9_7_10 : wr.cell? ⟨pr, 10, none⟩ = some (.int .u8 5) := hO.cell 7 rfl (10) ((full_at rfl))
        have c9_7_11 : wr.cell? ⟨pr, 11, none⟩ = some (.int .u8 0) := hO.cell 7 rfl (11) ((full_at rfl))
        have lt9_7 : pr < wr.heap.size := hO.lt 7 rfl
        have y9_7 : ∀ o, wr.frozen? ⟨pr, o, none⟩ = false := hO.free 7 rfl
        have HO := Lib.hid hO
        clear hO
        go_wp2_with (first | (with_reducible refine Own.stay (fn := Tryz.f39) ?_) | fail)
        try with_reducible refine Own.Stay.mk ?_
        have hO := HO.out
        clear HO hix9 hax9 ix9_0 ix9_1 ix9_2 ix9_3 ix9_4 ix9_5 ix9_6 ix9_7 ix9 c9_0_0 c9_0_1 lt9_0 y9_0 pl9_0 c9_1_0 lt9_1 y9_1 c9_2_0 lt9_2 y9_2 c9_4_0 c9_4_1 c9_4_2 c9_4_3 c9_4_4 lt9_4 y9_4 pl9_5 c9_5_j_2 c9_5_j_2_1 lt9_5 y9_5 c9_6_0 c9_6_1 c9_6_2 c9_6_3 c9_6_4 lt9_6 y9_6 c9_7_0 c9_7_1 c9_7_2 c9_7_3 c9_7_4 c9_7_5 c9_7_6 c9_7_7 c9_7_8 c9_7_9 c9_7_10 c9_7_11 lt9_7 y9_7
        generalize hW : World.alloc _ _ = W10
        have hN : Own w0 W10 [row (wr.heap.size) 29 #[.iface 56 (.pointer (some ⟨vn, 0, none⟩)), .int .i32 0], row (B1) 29 #[.iface 205 (.pointer (some ⟨ab, 0, none⟩)), .int .i32 lv], row (fb) 222 #[.func (Fn.func 39) #[] #[.pointer (some ⟨fb, 0, none⟩), .pointer (some ⟨mx, 0, none⟩)]], row (mx) 246 #[.map (some mb)], ((mb, .map (imA [(202, ob)]) 1) : Rw), row (ab) 207 #[.slice (some ⟨ib, 0, none⟩) (mm + 1 + tt) (mm + 1 + tt + ci), .int .i32 0, .int .i32 0, .bool false, .bool false], row (ib) 29 (full exZ IL ci), row (ob) 204 #[.slice (some ⟨pr, 0, none⟩) 1 (1 + cp), .int .i32 0, .int .i32 0, .bool false, .bool false], row (pr) 52 (full prZ [.pointer none, .nilIface, .int .i32 0, .iface 56 (.pointer (some ⟨vb, 0, none⟩)), .int .i32 0, .nilIface, .int .i32 0, .slice none 0 0, .int .i32 0, .int .i32 0, .int .u8 5, .int .u8 0] cp)] X := by
          rw [← hW]
          exact (hO).alloc' _ (wr.heap.size) (by simp)
        clear hW hO
        generalize wr.heap.size = B9 at hN ⊢
        have hO := hN
        clear hN
        have hL := hO.apart
        have hX := hO.apartX
        have HL := Lib.hid hL
        have HX := Lib.hid hX
        clear hL hX
        have hP9 := hO.pick [] (by decide)
        have T9 := fndI fb mx vn 0 _ _ _ hP9 
        refine Calls.mono T9 ?_
        clear hP9 T9
        rintro e uw11 ⟨rfl, hQ⟩
        have hN : Own w0 uw11 [row (B9) 29 #[.iface 56 (.pointer (some ⟨vn, 0, none⟩)), .int .i32 0], row (B1) 29 #[.iface 205 (.pointer (some ⟨ab, 0, none⟩)), .int .i32 lv], row (fb) 222 #[.func (Fn.func 39) #[] #[.pointer (some ⟨fb, 0, none⟩), .pointer (some ⟨mx, 0, none⟩)]], row (mx) 246 #[.map (some mb)], ((mb, .map (imA [(202, ob)]) 1) : Rw), row (ab) 207 #[.slice (some ⟨ib, 0, none⟩) (mm + 1 + tt) (mm + 1 + tt + ci), .int .i32 0, .int .i32 0, .bool false, .bool false], row (ib) 29 (full exZ IL ci), row (ob) 204 #[.slice (some ⟨pr, 0, none⟩) 1 (1 + cp), .int .i32 0, .int .i32 0, .bool false, .bool false], row (pr) 52 (full prZ [.pointer none, .nilIface, .int .i32 0, .iface 56 (.pointer (some ⟨vb, 0, none⟩)), .int .i32 0, .nilIface, .int .i32 0, .slice none 0 0, .int .i32 0, .int .i32 0, .int .u8 5, .int .u8 0] cp)] X := hQ.back HL.out HX.out [0, 1, 2, 3, 4, 5, 6, 7, 8] (by decide) (by decide)
        clear hQ HL HX hO
        have hO := hN
        clear hN
        obtain ⟨c9_0_0, c9_0_1, lt9_0, y9_0, -⟩ := hO.k2 0 rfl
        obtain ⟨c9_1_0, c9_1_1, lt9_1, y9_1, -⟩ := hO.k2 1 rfl
        obtain ⟨c9_2_0, lt9_2, y9_2, -⟩ := hO.k1 2 rfl
        obtain ⟨c9_3_0, lt9_3, y9_3, -⟩ := hO.k1 3 rfl
        obtain ⟨c9_5_0, c9_5_1, c9_5_2, c9_5_3, c9_5_4, lt9_5, y9_5, -⟩ := hO.k5 5 rfl
        obtain ⟨c9_7_0, c9_7_1, c9_7_2, c9_7_3, c9_7_4, lt9_7, y9_7, -⟩ := hO.k5 7 rfl
        have HO := Lib.hid hO
        clear hO
        go_wp2_with (first | (with_reducible refine Own.stay (fn := Tryz.f39) ?_) | fail)
        try with_reducible refine Own.Stay.mk ?_
        have hO := HO.out
        clear HO c9_0_0 c9_0_1 lt9_0 y9_0 c9_1_0 c9_1_1 lt9_1 y9_1 c9_2_0 lt9_2 y9_2 c9_3_0 lt9_3 y9_3 c9_5_0 c9_5_1 c9_5_2 c9_5_3 c9_5_4 lt9_5 y9_5 c9_7_0 c9_7_1 c9_7_2 c9_7_3 c9_7_4 lt9_7 y9_7
        go_roundg gq
        case measure => omega
        case rel => exact ⟨j + 1, by omega, by first | rfl | simp, Or.inr ⟨by omega, rfl, hO.sub [1, 2, 3, 4, 5, 6, 7, 8] (by decide)⟩⟩
    obtain rfl : gk = 0 := by omega
    obtain ⟨rfl⟩ : j = mm + 1 + tt := by omega
    have hlt9 : ¬ (mm : Int) + 1 + (tt : Int) < (mm : Int) + 1 + (tt : Int) := by omega
    obtain ⟨c9_0_0, c9_0_1, lt9_0, y9_0, -⟩ := hO.k2 0 rfl
    obtain ⟨c9_1_0, lt9_1, y9_1, -⟩ := hO.k1 1 rfl
    obtain ⟨c9_2_0, lt9_2, y9_2, -⟩ := hO.k1 2 rfl
    obtain ⟨c9_4_0, c9_4_1, c9_4_2, c9_4_3, c9_4_4, lt9_4, y9_4, -⟩ := hO.k5 4 rfl
    obtain ⟨c9_6_0, c9_6_1, c9_6_2, c9_6_3, c9_6_4, lt9_6, y9_6, -⟩ := hO.k5 6 rfl
    have HO := Lib.hid hO
    clear hO
    go_wp2_with (first | (with_reducible refine Own.stay (fn := Tryz.f39) ?_) | (at_mapUpdate; refine wpList_update_im (l := [(202, ob)]) (l' := [(202, ob), (205, ab)]) (n' := 2) rfl rfl Tryz.underlying246 ktA (HO.out.mapAt 3 rfl) rfl rfl rfl rfl rfl rfl rfl ?_))
    try with_reducible refine Own.Stay.mk ?_
    have hO := HO.out
    clear HO c9_0_0 c9_0_1 lt9_0 y9_0 c9_1_0 lt9_1 y9_1 c9_2_0 lt9_2 y9_2 c9_4_0 c9_4_1 c9_4_2 c9_4_3 c9_4_4 lt9_4 y9_4 c9_6_0 c9_6_1 c9_6_2 c9_6_3 c9_6_4 lt9_6 y9_6
    generalize hW : Base.setMap _ _ _ _ = W13
    have hN : Own w0 W13 [row (B1) 29 #[.iface 205 (.pointer (some ⟨ab, 0, none⟩)), .int .i32 lv], row (fb) 222 #[.func (Fn.func 39) #[] #[.pointer (some ⟨fb, 0, none⟩), .pointer (some ⟨mx, 0, none⟩)]], row (mx) 246 #[.map (some mb)], ((mb, .map (imA [(202, ob), (205, ab)]) 2) : Rw), row (ab) 207 #[.slice (some ⟨ib, 0, none⟩) (mm + 1 + tt) (mm + 1 + tt + ci), .int .i32 0, .int .i32 0, .bool false, .bool false], row (ib) 29 (full exZ IL ci), row (ob) 204 #[.slice (some ⟨pr, 0, none⟩) 1 (1 + cp), .int .i32 0, .int .i32 0, .bool false, .bool false], row (pr) 52 (full prZ [.pointer none, .nilIface, .int .i32 0, .iface 56 (.pointer (some ⟨vb, 0, none⟩)), .int .i32 0, .nilIface, .int .i32 0, .slice none 0 0, .int .i32 0, .int .i32 0, .int .u8 5, .int .u8 0] cp)] X := by
      rw [← hW]
      exact (hO).setMap 3 rfl (imA [(202, ob), (205, ab)]) 2
    clear hW hO
    have hO := hN
    clear hN
    refine bodyPost_ret (v := .bool true) ?_ rfl ⟨rfl, hO.sub [1, 2, 3, 4, 5, 6, 7] (by decide)⟩
    simp [results, Tryz.results39, go_sem]
end Go.Proofs.YtghofdhhhbbaaaaGreatDoor.Use
