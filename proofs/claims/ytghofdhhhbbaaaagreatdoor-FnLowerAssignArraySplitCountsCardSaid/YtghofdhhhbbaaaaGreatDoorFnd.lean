/- Rest bindings, sought: an identifier; an object of one rest property. No condition. -/
import Derived.Test.YtghofdhhhbbaaaaGreatDoorFndk
import Derived.Test.YtghofdhhhbbaaaaGreatDoorIts
import Derived.Test.YtghofdhhhbbaaaaGreatDoorIfm
import Derived.Test.YtghofdhhhbbaaaaGreatDoorSla
import Derived.Test.YtghofdhhhbbaaaaGreatDoorLoop
import Derived.Test.YtghofdhhhbbaaaaGreatDoorMini
import Derived.Test.YtghofdhhhbbaaaaGreatDoorAppL
import Derived.Test.YtghofdhhhbbaaaaGreatDoorApp
import Derived.Test.YtghofdhhhbbaaaaGreatDoorOwnK
import Derived.Test.YtghofdhhhbbaaaaGreatDoorOwn
import Derived.Test.YtghofdhhhbbaaaaGreatDoorDeepCells
import Derived.Test.YtghofdhhhbbaaaaGreatDoorRows
import Derived.Test.YtghofdhhhbbaaaaGreatDoorLive
namespace Go.Proofs.YtghofdhhhbbaaaaGreatDoor.Use
open Go.ChangeShapes Go.WideShapes Go.ChangeAt Go.RowKit Go.Sort Own
set_option linter.unusedVariables false
def fndIPost (fb mx vn : Nat) (lv : Int) (w0 : World) (X : Nat → Obj → Prop) (e : Ending) (w' : World) : Prop :=
  e = .returned (.bool false) ∧ Own w0 w' [] X
set_option maxRecDepth 100000 in
set_option maxHeartbeats 2000000 in
theorem fndI (fb mx vn : Nat) (lv : Int) (w0 w : World) (X : Nat → Obj → Prop) (hO : Own w0 w [] X)  :
    Calls Tryz.prog 39 #[.agg #[.iface 56 (.pointer (some ⟨vn, 0, none⟩)), .int .i32 lv], .pointer (some ⟨fb, 0, none⟩), .pointer (some ⟨mx, 0, none⟩)] w (fndIPost fb mx vn lv w0 X) := by
  go_enter Tryz.func39, Tryz.ntmps39
  go_wp2_with (first | (with_reducible refine Own.stay (fn := Tryz.f39) ?_) | fail)
  try with_reducible refine Own.Stay.mk ?_
  generalize hW : World.alloc _ _ = W2
  have hN : Own w0 W2 [row (w.heap.size) 29 #[.iface 56 (.pointer (some ⟨vn, 0, none⟩)), .int .i32 lv]] X := by
    rw [← hW]
    exact (hO).alloc' _ (w.heap.size) (by simp)
  clear hW hO
  generalize w.heap.size = B1 at hN ⊢
  have hO := hN
  clear hN
  refine bodyPost_ret (v := .bool false) ?_ rfl ⟨rfl, hO.sub [] (by decide)⟩
  simp [results, Tryz.results39, go_sem]
def fndOPost (fb mx mb ob : Nat) (lv : Int) (pr cp vb : Nat) (w0 : World) (X : Nat → Obj → Prop) (e : Ending) (w' : World) : Prop :=
  e = .returned (.bool true) ∧ Own w0 w' [row (mx) 246 #[.map (some mb)], ((mb, .map (imA [(202, ob)]) 1) : Rw), row (ob) 204 #[.slice (some ⟨pr, 0, none⟩) 1 (1 + cp), .int .i32 0, .int .i32 0, .bool false, .bool false], row (pr) 52 (full prZ [.pointer none, .nilIface, .int .i32 0, .iface 56 (.pointer (some ⟨vb, 0, none⟩)), .int .i32 0, .nilIface, .int .i32 0, .slice none 0 0, .int .i32 0, .int .i32 0, .int .u8 5, .int .u8 0] cp)] X
set_option maxRecDepth 100000 in
set_option maxHeartbeats 2000000 in
theorem fndO (fb mx mb ob : Nat) (lv : Int) (pr cp vb : Nat) (w0 w : World) (X : Nat → Obj → Prop) (hO : Own w0 w [row (mx) 246 #[.map (some mb)], ((mb, .map (imA []) 0) : Rw), row (ob) 204 #[.slice (some ⟨pr, 0, none⟩) 1 (1 + cp), .int .i32 0, .int .i32 0, .bool false, .bool false], row (pr) 52 (full prZ [.pointer none, .nilIface, .int .i32 0, .iface 56 (.pointer (some ⟨vb, 0, none⟩)), .int .i32 0, .nilIface, .int .i32 0, .slice none 0 0, .int .i32 0, .int .i32 0, .int .u8 5, .int .u8 0] cp)] X)  :
    Calls Tryz.prog 39 #[.agg #[.iface 202 (.pointer (some ⟨ob, 0, none⟩)), .int .i32 lv], .pointer (some ⟨fb, 0, none⟩), .pointer (some ⟨mx, 0, none⟩)] w (fndOPost fb mx mb ob lv pr cp vb w0 X) := by
  go_enter Tryz.func39, Tryz.ntmps39
  obtain ⟨c9_0_0, lt9_0, y9_0, -⟩ := hO.k1 0 rfl
  obtain ⟨c9_2_0, c9_2_1, c9_2_2, c9_2_3, c9_2_4, lt9_2, y9_2, -⟩ := hO.k5 2 rfl
  have HO := Lib.hid hO
  clear hO
  go_wp2_with (first | (with_reducible refine Own.stay (fn := Tryz.f39) ?_) | fail)
  try with_reducible refine Own.Stay.mk ?_
  have hO := HO.out
  clear HO c9_0_0 lt9_0 y9_0 c9_2_0 c9_2_1 c9_2_2 c9_2_3 c9_2_4 lt9_2 y9_2
  generalize hW : World.alloc _ _ = W2
  have hN : Own w0 W2 [row (w.heap.size) 29 #[.iface 202 (.pointer (some ⟨ob, 0, none⟩)), .int .i32 lv], row (mx) 246 #[.map (some mb)], ((mb, .map (imA []) 0) : Rw), row (ob) 204 #[.slice (some ⟨pr, 0, none⟩) 1 (1 + cp), .int .i32 0, .int .i32 0, .bool false, .bool false], row (pr) 52 (full prZ [.pointer none, .nilIface, .int .i32 0, .iface 56 (.pointer (some ⟨vb, 0, none⟩)), .int .i32 0, .nilIface, .int .i32 0, .slice none 0 0, .int .i32 0, .int .i32 0, .int .u8 5, .int .u8 0] cp)] X := by
    rw [← hW]
    exact (hO).alloc' _ (w.heap.size) (by simp)
  clear hW hO
  generalize w.heap.size = B1 at hN ⊢
  have hO := hN
  clear hN
  go_loopg [5, 55] 2 (fun gf s5 s55 wx => ((gf = 2 ∧ s5 = .bool false ∧ s55 = .int .i64 0) ∨ (gf = 1 ∧ s5 = .bool true ∧ s55 = .int .i64 1)) ∧ Own w0 wx [row (B1) 29 #[.iface 202 (.pointer (some ⟨ob, 0, none⟩)), .int .i32 lv], row (mx) 246 #[.map (some mb)], ((mb, .map (imA []) 0) : Rw), row (ob) 204 #[.slice (some ⟨pr, 0, none⟩) 1 (1 + cp), .int .i32 0, .int .i32 0, .bool false, .bool false], row (pr) 52 (full prZ [.pointer none, .nilIface, .int .i32 0, .iface 56 (.pointer (some ⟨vb, 0, none⟩)), .int .i32 0, .nilIface, .int .i32 0, .slice none 0 0, .int .i32 0, .int .i32 0, .int .u8 5, .int .u8 0] cp)] X)
  case atStart => exact ⟨Or.inl ⟨rfl, rfl, rfl⟩, hO⟩
  obtain ⟨⟨rfl, rfl, rfl⟩ | ⟨rfl, rfl, rfl⟩, hO⟩ := hrel
  · skip
    obtain ⟨ix9, hix9, hax9, hjx9⟩ := hO.ix
    have ix9_0 : ix9 B1 = 0 := hjx9 0 _ _ rfl
    have ix9_1 : ix9 mx = 1 := hjx9 1 _ _ rfl
    have ix9_2 : ix9 mb = 2 := hjx9 2 _ _ rfl
    have ix9_3 : ix9 ob = 3 := hjx9 3 _ _ rfl
    have ix9_4 : ix9 pr = 4 := hjx9 4 _ _ rfl
    clear hjx9
    obtain ⟨c9_0_0, c9_0_1, lt9_0, y9_0, -⟩ := hO.k2 0 rfl
    obtain ⟨c9_1_0, lt9_1, y9_1, -⟩ := hO.k1 1 rfl
    obtain ⟨c9_3_0, c9_3_1, c9_3_2, c9_3_3, c9_3_4, lt9_3, y9_3, -⟩ := hO.k5 3 rfl
    have c9_4_0 : wr.cell? ⟨pr, 0, none⟩ = some (.pointer none) := hO.cell 4 rfl (0) ((full_at rfl))
    have c9_4_1 : wr.cell? ⟨pr, 1, none⟩ = some (.nilIface) := hO.cell 4 rfl (1) ((full_at rfl))
    have c9_4_2 : wr.cell? ⟨pr, 2, none⟩ = some (.int .i32 0) := hO.cell 4 rfl (2) ((full_at rfl))
    have c9_4_3 : wr.cell? ⟨pr, 3, none⟩ = some (.iface 56 (.pointer (some ⟨vb, 0, none⟩))) := hO.cell 4 rfl (3) ((full_at rfl))
    have c9_4_4 : wr.cell? ⟨pr, 4, none⟩ = some (.int .i32 0) := hO.cell 4 rfl (4) ((full_at rfl))
    have c9_4_5 : wr.cell? ⟨pr, 5, none⟩ = some (.nilIface) := hO.cell 4 rfl (5) ((full_at rfl))
    have c9_4_6 : wr.cell? ⟨pr, 6, none⟩ = some (.int .i32 0) := hO.cell 4 rfl (6) ((full_at rfl))
    have c9_4_7 : wr.cell? ⟨pr, 7, none⟩ = some (.slice none 0 0) := hO.cell 4 rfl (7) ((full_at rfl))
    have c9_4_8 : wr.cell? ⟨pr, 8, none⟩ = some (.int .i32 0) := hO.cell 4 rfl (8) ((full_at rfl))
    have c9_4_9 : wr.cell? ⟨pr, 9, none⟩ = some (.int .i32 0) := hO.cell 4 rfl (9) ((full_at rfl))
    have c9_4_10 : wr.cell? ⟨pr, 10, none⟩ = some (.int .u8 5) := hO.cell 4 rfl (10) ((full_at rfl))
    have c9_4_11 : wr.cell? ⟨pr, 11, none⟩ = some (.int .u8 0) := hO.cell 4 rfl (11) ((full_at rfl))
    have lt9_4 : pr < wr.heap.size := hO.lt 4 rfl
    have y9_4 : ∀ o, wr.frozen? ⟨pr, o, none⟩ = false := hO.free 4 rfl
    have HO := Lib.hid hO
    clear hO
    go_wp2_with (first | (with_reducible refine Own.stay (fn := Tryz.f39) ?_) | fail)
    try with_reducible refine Own.Stay.mk ?_
    have hO := HO.out
    clear HO hix9 hax9 ix9_0 ix9_1 ix9_2 ix9_3 ix9_4 ix9 c9_0_0 c9_0_1 lt9_0 y9_0 c9_1_0 lt9_1 y9_1 c9_3_0 c9_3_1 c9_3_2 c9_3_3 c9_3_4 lt9_3 y9_3 c9_4_0 c9_4_1 c9_4_2 c9_4_3 c9_4_4 c9_4_5 c9_4_6 c9_4_7 c9_4_8 c9_4_9 c9_4_10 c9_4_11 lt9_4 y9_4
    generalize hW : World.alloc _ _ = W4
    have hN : Own w0 W4 [row (wr.heap.size) 52 #[.pointer none, .nilIface, .int .i32 0, .iface 56 (.pointer (some ⟨vb, 0, none⟩)), .int .i32 0, .nilIface, .int .i32 0, .slice none 0 0, .int .i32 0, .int .i32 0, .int .u8 5, .int .u8 0], row (B1) 29 #[.iface 202 (.pointer (some ⟨ob, 0, none⟩)), .int .i32 lv], row (mx) 246 #[.map (some mb)], ((mb, .map (imA []) 0) : Rw), row (ob) 204 #[.slice (some ⟨pr, 0, none⟩) 1 (1 + cp), .int .i32 0, .int .i32 0, .bool false, .bool false], row (pr) 52 (full prZ [.pointer none, .nilIface, .int .i32 0, .iface 56 (.pointer (some ⟨vb, 0, none⟩)), .int .i32 0, .nilIface, .int .i32 0, .slice none 0 0, .int .i32 0, .int .i32 0, .int .u8 5, .int .u8 0] cp)] X := by
      rw [← hW]
      exact (hO).alloc' _ (wr.heap.size) (by simp)
    clear hW hO
    generalize wr.heap.size = B3 at hN ⊢
    have hO := hN
    clear hN
    go_roundg 1
    case measure => omega
    case rel => exact ⟨Or.inr ⟨rfl, rfl, rfl⟩, hO.sub [1, 2, 3, 4, 5] (by decide)⟩
  obtain ⟨c9_0_0, c9_0_1, lt9_0, y9_0, -⟩ := hO.k2 0 rfl
  obtain ⟨c9_1_0, lt9_1, y9_1, -⟩ := hO.k1 1 rfl
  obtain ⟨c9_3_0, c9_3_1, c9_3_2, c9_3_3, c9_3_4, lt9_3, y9_3, -⟩ := hO.k5 3 rfl
  have HO := Lib.hid hO
  clear hO
  go_wp2_with (first | (with_reducible refine Own.stay (fn := Tryz.f39) ?_) | (at_mapUpdate; refine wpList_update_im (l := []) (l' := [(202, ob)]) (n' := 1) rfl rfl Tryz.underlying246 ktO (HO.out.mapAt 2 rfl) rfl rfl rfl rfl rfl rfl rfl ?_))
  try with_reducible refine Own.Stay.mk ?_
  have hO := HO.out
  clear HO c9_0_0 c9_0_1 lt9_0 y9_0 c9_1_0 lt9_1 y9_1 c9_3_0 c9_3_1 c9_3_2 c9_3_3 c9_3_4 lt9_3 y9_3
  generalize hW : Base.setMap _ _ _ _ = W6
  have hN : Own w0 W6 [row (B1) 29 #[.iface 202 (.pointer (some ⟨ob, 0, none⟩)), .int .i32 lv], row (mx) 246 #[.map (some mb)], ((mb, .map (imA [(202, ob)]) 1) : Rw), row (ob) 204 #[.slice (some ⟨pr, 0, none⟩) 1 (1 + cp), .int .i32 0, .int .i32 0, .bool false, .bool false], row (pr) 52 (full prZ [.pointer none, .nilIface, .int .i32 0, .iface 56 (.pointer (some ⟨vb, 0, none⟩)), .int .i32 0, .nilIface, .int .i32 0, .slice none 0 0, .int .i32 0, .int .i32 0, .int .u8 5, .int .u8 0] cp)] X := by
    rw [← hW]
    exact (hO).setMap 2 rfl (imA [(202, ob)]) 1
  clear hW hO
  have hO := hN
  clear hN
  refine bodyPost_ret (v := .bool true) ?_ rfl ⟨rfl, hO.sub [1, 2, 3, 4] (by decide)⟩
  simp [results, Tryz.results39, go_sem]
end Go.Proofs.YtghofdhhhbbaaaaGreatDoor.Use
