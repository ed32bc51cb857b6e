/- An array of items that are not lowered. No condition. -/
import Derived.Test.YtcbdjbjbikiaeaaDoorCls
import Derived.Test.YtcbdjbjbikiaeaaDoorCld
import Derived.Test.YtcbdjbjbikiaeaaDoorIta
import Derived.Test.YtcbdjbjbikiaeaaDoorItm
import Derived.Test.YtcbdjbjbikiaeaaDoorOwn
import Derived.Test.YtcbdjbjbikiaeaaDoorOwnK
import Derived.Test.YtcbdjbjbikiaeaaDoorLoop
import Derived.Test.YtcbdjbjbikiaeaaDoorApp
import Derived.Test.YtcbdjbjbikiaeaaDoorDeepCells
import Derived.Test.YtcbdjbjbikiaeaaDoorRows
import Derived.Test.YtcbdjbjbikiaeaaDoorDead
namespace Go.Proofs.YtcbdjbjbikiaeaaDoor.Use
open Go.ChangeShapes Go.WideShapes Go.ChangeAt Go.RowKit Go.Sort Own
set_option linter.unusedVariables false
def arrColdPost (pb : Nat) (PC : Array Value) (mp cr : Nat) (r s : Bool) (loc : Int) (l : Bool) (ea it n : Nat) (vt vb : Nat → Nat) (w0 : World) (X : Nat → Obj → Prop) (e : Ending) (w' : World) : Prop :=
  e = .returned (.tuple #[.agg #[.iface 62 (.pointer (some ⟨ea, 0, none⟩)), .int .i32 loc], .bool false]) ∧ Own w0 w' [row (pb) 206 PC, row (ea) 65 #[.slice (some ⟨it, 0, none⟩) n n, .int .i32 0, .int .i32 0, .bool false, .bool false], row (it) 30 (itR vt vb n 0)] X
set_option maxRecDepth 100000 in
set_option maxHeartbeats 2000000 in
theorem arrCold (pb : Nat) (PC : Array Value) (mp cr : Nat) (r s : Bool) (loc : Int) (l : Bool) (ea it n : Nat) (vt vb : Nat → Nat) (w0 w : World) (X : Nat → Obj → Prop) (hO : Own w0 w [row (pb) 206 PC, row (ea) 65 #[.slice (some ⟨it, 0, none⟩) n n, .int .i32 0, .int .i32 0, .bool false, .bool false], row (it) 30 (itR vt vb n 0)] X) (hD : Dead PC mp cr r s) (hl : PC[338]? = some (.bool l)) (hn4 : n ≤ 4096) (hc : ∀ i : Nat, i < n → ColdV X l (vt i) (vb i)) :
    Calls Tryd.prog 35 #[.pointer (some ⟨pb, 0, none⟩), .agg #[.iface 62 (.pointer (some ⟨ea, 0, none⟩)), .int .i32 loc]] w (arrColdPost pb PC mp cr r s loc l ea it n vt vb w0 X) := by
  go_enter Tryd.func35, Tryd.ntmps35
  have HC := Lib.hid hc
  clear hc
  have hn9 : (n : Int) ≤ 4096 := by omega
  have hn8 : (0 : Int) ≤ (n : Int) := by omega
  obtain ⟨c9_1_0, c9_1_1, c9_1_2, c9_1_3, c9_1_4, lt9_1, y9_1, -⟩ := hO.k5 1 rfl
  have HO := Lib.hid hO
  clear hO
  go_wp2_with (first | (with_reducible refine Own.stay (fn := Tryd.f35) ?_) | (first | (go_at_call 34; go_in)))
  try with_reducible refine Own.Stay.mk ?_
  have hO := HO.out
  clear HO c9_1_0 c9_1_1 c9_1_2 c9_1_3 c9_1_4 lt9_1 y9_1
  generalize hW : World.alloc _ _ = W2
  have hN : Own w0 W2 [row (w.heap.size + 1) 30 #[.nilIface, .int .i32 0], row (w.heap.size) 30 #[.iface 62 (.pointer (some ⟨ea, 0, none⟩)), .int .i32 loc], row (pb) 206 PC, row (ea) 65 #[.slice (some ⟨it, 0, none⟩) n n, .int .i32 0, .int .i32 0, .bool false, .bool false], row (it) 30 (itR vt vb n 0)] X := by
    rw [← hW]
    exact ((hO).alloc' _ (w.heap.size) (by simp)).alloc' _ (w.heap.size + 1) (by simp)
  clear hW hO
  generalize w.heap.size + 1 = B1_1 at hN ⊢
  generalize w.heap.size = B1 at hN ⊢
  have hO := hN
  clear hN
  go_loopg [6, 194] n (fun gf s6 s194 wx => ∃ j : Nat, j + gf = n ∧ s6 = .bool false ∧ s194 = .int .i64 (j : Int) ∧ Own w0 wx [row (B1_1) 30 #[.nilIface, .int .i32 0], row (B1) 30 #[.iface 62 (.pointer (some ⟨ea, 0, none⟩)), .int .i32 loc], row (pb) 206 PC, row (ea) 65 #[.slice (some ⟨it, 0, none⟩) n n, .int .i32 0, .int .i32 0, .bool false, .bool false], row (it) 30 (itR vt vb n 0)] X)
  case atStart => exact ⟨0, by omega, rfl, rfl, hO⟩
  obtain ⟨j, hjn, rfl, rfl, hO⟩ := hrel
  by_cases hlt : j < n
  · skip
    obtain ⟨gq, rfl⟩ : ∃ gq, gk = gq + 1 := ⟨gk - 1, by omega⟩
    have hlt9 : (j : Int) < (n : Int) := by omega
    have hj8 : (0 : Int) ≤ (j : Int) := by omega
    have hj7 : (j : Int) ≤ 4096 := by omega
    obtain ⟨ix9, hix9, hax9, hjx9⟩ := hO.ix
    have ix9_0 : ix9 B1_1 = 0 := hjx9 0 _ _ rfl
    have ix9_1 : ix9 B1 = 1 := hjx9 1 _ _ rfl
    have ix9_2 : ix9 pb = 2 := hjx9 2 _ _ rfl
    have ix9_3 : ix9 ea = 3 := hjx9 3 _ _ rfl
    have ix9_4 : ix9 it = 4 := hjx9 4 _ _ rfl
    clear hjx9
    obtain ⟨c9_0_0, c9_0_1, lt9_0, y9_0, pl9_0⟩ := hO.k2 0 rfl
    obtain ⟨c9_1_0, c9_1_1, lt9_1, y9_1, pl9_1⟩ := hO.k2 1 rfl
    have c9_2_32 : wr.cell? ⟨pb, 32, none⟩ = some (.bool false) := hO.cell 2 rfl (32) (hD.ts)
    have c9_2_95 : wr.cell? ⟨pb, 95, none⟩ = some (.bool r) := hO.cell 2 rfl (95) (hD.rep)
    have c9_2_96 : wr.cell? ⟨pb, 96, none⟩ = some (.bool s) := hO.cell 2 rfl (96) (hD.stat)
    have c9_2_97 : wr.cell? ⟨pb, 97, none⟩ = some (.pointer (some ⟨cr, 0, none⟩)) := hO.cell 2 rfl (97) (hD.cls)
    have c9_2_117 : wr.cell? ⟨pb, 117, none⟩ = some (.map (some mp)) := hO.cell 2 rfl (117) (hD.imp)
    have c9_2_338 : wr.cell? ⟨pb, 338, none⟩ = some (.bool l) := hO.cell 2 rfl (338) (hl)
    have c9_2_350 : wr.cell? ⟨pb, 350, none⟩ = some (.bool true) := hO.cell 2 rfl (350) (hD.dead)
    have lt9_2 : pb < wr.heap.size := hO.lt 2 rfl
    have y9_2 : ∀ o, wr.frozen? ⟨pb, o, none⟩ = false := hO.free 2 rfl
    obtain ⟨c9_3_0, c9_3_1, c9_3_2, c9_3_3, c9_3_4, lt9_3, y9_3, -⟩ := hO.k5 3 rfl
    have pl9_4 : Base.plainAt wr (it) = true := hO.plain 4 rfl
    have c9_4_j_2 : wr.cell? ⟨it, j * 2, none⟩ = some (.iface (vt j) (.pointer (some ⟨(vb j), 0, none⟩))) := hO.cell 4 rfl (j * 2) ((itR_at0 hlt))
    have c9_4_j_2_1 : wr.cell? ⟨it, j * 2 + 1, none⟩ = some (.int .i32 (2 * (j : Int))) := hO.cell 4 rfl (j * 2 + 1) ((itR_at1 hlt))
    have lt9_4 : it < wr.heap.size := hO.lt 4 rfl
    have y9_4 : ∀ o, wr.frozen? ⟨it, o, none⟩ = false := hO.free 4 rfl
    have HO := Lib.hid hO
    clear hO
    go_wp2_with (first | (with_reducible refine Own.stay (fn := Tryd.f35) ?_) | (first | (go_at_call 34; go_in)))
    try with_reducible refine Own.Stay.mk ?_
    have hO := HO.out
    clear HO hix9 hax9 ix9_0 ix9_1 ix9_2 ix9_3 ix9_4 ix9 c9_0_0 c9_0_1 lt9_0 y9_0 pl9_0 c9_1_0 c9_1_1 lt9_1 y9_1 pl9_1 c9_2_32 c9_2_95 c9_2_96 c9_2_97 c9_2_117 c9_2_338 c9_2_350 lt9_2 y9_2 c9_3_0 c9_3_1 c9_3_2 c9_3_3 c9_3_4 lt9_3 y9_3 pl9_4 c9_4_j_2 c9_4_j_2_1 lt9_4 y9_4
    generalize hW : World.alloc _ _ = W4
    have hN : Own w0 W4 [row (wr.heap.size) 30 #[.iface (vt j) (.pointer (some ⟨vb j, 0, none⟩)), .int .i32 (2 * (j : Int))], row (B1_1) 30 #[.nilIface, .int .i32 0], row (B1) 30 #[.iface 62 (.pointer (some ⟨ea, 0, none⟩)), .int .i32 loc], row (pb) 206 PC, row (ea) 65 #[.slice (some ⟨it, 0, none⟩) n n, .int .i32 0, .int .i32 0, .bool false, .bool false], row (it) 30 (itR vt vb n 0)] X := by
      rw [← hW]
      exact (hO).alloc' _ (wr.heap.size) (by simp)
    clear hW hO
    generalize wr.heap.size = B3 at hN ⊢
    have hO := hN
    clear hN
    have hL := hO.apart
    have hX := hO.apartX
    have HL := Lib.hid hL
    have HX := Lib.hid hX
    clear hL hX
    have hP9 := hO.pick [3] (by decide)
    have T9 := coldItem pb PC mp cr r s (2 * (j : Int)) l (vt j) (vb j) _ _ _ hP9 hD hl ((HC.out j hlt).mono fun b o h => Or.inl h)
    refine Calls.mono T9 ?_
    clear hP9 T9
    rintro e uw5 ⟨rfl, hQ⟩
    have hN : Own w0 uw5 [row (pb) 206 PC, row (B3) 30 #[.iface (vt j) (.pointer (some ⟨vb j, 0, none⟩)), .int .i32 (2 * (j : Int))], row (B1_1) 30 #[.nilIface, .int .i32 0], row (B1) 30 #[.iface 62 (.pointer (some ⟨ea, 0, none⟩)), .int .i32 loc], row (ea) 65 #[.slice (some ⟨it, 0, none⟩) n n, .int .i32 0, .int .i32 0, .bool false, .bool false], row (it) 30 (itR vt vb n 0)] X := hQ.back HL.out HX.out [0, 1, 2, 4, 5] (by decide) (by decide)
    clear hQ HL HX hO
    have hO := hN
    clear hN
    obtain ⟨c9_1_0, c9_1_1, lt9_1, y9_1, -⟩ := hO.k2 1 rfl
    obtain ⟨c9_2_0, c9_2_1, lt9_2, y9_2, -⟩ := hO.k2 2 rfl
    obtain ⟨c9_3_0, c9_3_1, lt9_3, y9_3, -⟩ := hO.k2 3 rfl
    obtain ⟨c9_4_0, c9_4_1, c9_4_2, c9_4_3, c9_4_4, lt9_4, y9_4, -⟩ := hO.k5 4 rfl
    have HO := Lib.hid hO
    clear hO
    go_wp2_with (first | (with_reducible refine Own.stay (fn := Tryd.f35) ?_) | (first | (go_at_call 34; go_in)))
    try with_reducible refine Own.Stay.mk ?_
    have hO := HO.out
    clear HO c9_1_0 c9_1_1 lt9_1 y9_1 c9_2_0 c9_2_1 lt9_2 y9_2 c9_3_0 c9_3_1 lt9_3 y9_3 c9_4_0 c9_4_1 c9_4_2 c9_4_3 c9_4_4 lt9_4 y9_4
    generalize hW : World.alloc _ _ = W7
    have hN : Own w0 W7 [row (uw5.heap.size) 30 #[.iface (vt j) (.pointer (some ⟨vb j, 0, none⟩)), .int .i32 (2 * (j : Int))], row (pb) 206 PC, row (B3) 30 #[.iface (vt j) (.pointer (some ⟨vb j, 0, none⟩)), .int .i32 (2 * (j : Int))], row (B1_1) 30 #[.nilIface, .int .i32 0], row (B1) 30 #[.iface 62 (.pointer (some ⟨ea, 0, none⟩)), .int .i32 loc], row (ea) 65 #[.slice (some ⟨it, 0, none⟩) n n, .int .i32 0, .int .i32 0, .bool false, .bool false], row (it) 30 (itR vt vb n 0)] X := by
      rw [← hW]
      exact (hO).alloc' _ (uw5.heap.size) (by simp)
    clear hW hO
    generalize uw5.heap.size = B6 at hN ⊢
    have hO := hN
    clear hN
    go_roundg gq
    case measure => omega
    case rel => exact ⟨j + 1, by omega, rfl, by first | rfl | simp, hO.sub [3, 4, 1, 5, 6] (by decide)⟩
  obtain rfl : gk = 0 := by omega
  obtain rfl : n = j := by omega
  have hlt9 : ¬ (n : Int) < (n : Int) := by omega
  obtain ⟨c9_0_0, c9_0_1, lt9_0, y9_0, -⟩ := hO.k2 0 rfl
  obtain ⟨c9_1_0, c9_1_1, lt9_1, y9_1, -⟩ := hO.k2 1 rfl
  obtain ⟨c9_3_0, c9_3_1, c9_3_2, c9_3_3, c9_3_4, lt9_3, y9_3, -⟩ := hO.k5 3 rfl
  have HO := Lib.hid hO
  clear hO
  go_wp2_with (first | (with_reducible refine Own.stay (fn := Tryd.f35) ?_) | (first | (go_at_call 34; go_in)))
  try with_reducible refine Own.Stay.mk ?_
  have hO := HO.out
  clear HO c9_0_0 c9_0_1 lt9_0 y9_0 c9_1_0 c9_1_1 lt9_1 y9_1 c9_3_0 c9_3_1 c9_3_2 c9_3_3 c9_3_4 lt9_3 y9_3
  generalize hW : World.setCell _ _ _ = W9
  have hN : Own w0 W9 [row (B1_1) 30 #[.iface 62 (.pointer (some ⟨ea, 0, none⟩)), .int .i32 loc], row (B1) 30 #[.iface 62 (.pointer (some ⟨ea, 0, none⟩)), .int .i32 loc], row (pb) 206 PC, row (ea) 65 #[.slice (some ⟨it, 0, none⟩) n n, .int .i32 0, .int .i32 0, .bool false, .bool false], row (it) 30 (itR vt vb n 0)] X := by
    rw [← hW]
    exact ((hO).set 0 rfl 0 _).set 0 rfl 1 _
  clear hW hO
  have hO := hN
  clear hN
  have z9_0_0 : W9.cell? ⟨B1_1, 0, none⟩ = some (.iface 62 (.pointer (some ⟨ea, 0, none⟩))) := hO.cell 0 rfl 0 rfl
  have z9_0_1 : W9.cell? ⟨B1_1, 1, none⟩ = some (.int .i32 loc) := hO.cell 0 rfl 1 rfl
  refine bodyPost_ret (v := .tuple #[.agg #[.iface 62 (.pointer (some ⟨ea, 0, none⟩)), .int .i32 loc], .bool false]) ?_ rfl ⟨rfl, hO.sub [2, 3, 4] (by decide)⟩
  simp [results, Tryd.results35, go_sem, z9_0_0, z9_0_1]
end Go.Proofs.YtcbdjbjbikiaeaaDoor.Use
