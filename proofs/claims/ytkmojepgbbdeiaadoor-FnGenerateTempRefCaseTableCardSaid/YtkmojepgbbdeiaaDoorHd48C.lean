/- Row 48, walked to its look at the scopes, and joined with what follows. No condition. -/
import Derived.Test.YtkmojepgbbdeiaaDoorTl48C
import Derived.Test.YtkmojepgbbdeiaaDoorUdr
import Derived.Test.YtkmojepgbbdeiaaDoorRdh
import Derived.Test.YtkmojepgbbdeiaaDoorChn
import Derived.Test.YtkmojepgbbdeiaaDoorRdk
import Derived.Test.YtkmojepgbbdeiaaDoorRead
import Derived.Test.YtkmojepgbbdeiaaDoorNewP
import Derived.Test.YtkmojepgbbdeiaaDoorTs
import Derived.Test.YtkmojepgbbdeiaaDoorMno
import Derived.Test.YtkmojepgbbdeiaaDoorMini
import Derived.Test.YtkmojepgbbdeiaaDoorAppL
import Derived.Test.YtkmojepgbbdeiaaDoorApp
import Derived.Test.YtkmojepgbbdeiaaDoorOwnK
import Derived.Test.YtkmojepgbbdeiaaDoorOwn
import Derived.Test.YtkmojepgbbdeiaaDoorDeepCells
import Derived.Test.YtkmojepgbbdeiaaDoorRows
import Derived.Test.YtkmojepgbbdeiaaDoorLive
namespace Go.Proofs.YtkmojepgbbdeiaaDoor.Use
open Go.ChangeShapes Go.WideShapes Go.ChangeAt Go.RowKit Go.Sort Own
set_option linter.unusedVariables false

set_option maxRecDepth 100000 in
set_option maxHeartbeats 20000000 in
theorem hd48C (src : Int) (nmx : ByteArray) (t n : Nat) (ts : Bool) (w0 w : World) (X : Nat → Obj → Prop) (hO : Own w0 w [] X) (hnl : nmx.size ≤ 1048576) (ht4 : t ≤ 65536) (hn4 : n ≤ 65536) (hg0 : w0.cell? ⟨0, 0, none⟩ = some (.int .u32 4294967295)) (hg1 : w0.cell? ⟨0, 1, none⟩ = some (.int .u32 4294967295)) :
    Calls Tryd.prog 5 #[.int .u32 src, .int .i64 0, .int .i64 2, .string nmx, .int .i64 (t : Int), .int .i64 (n : Int), .bool ts] w (l48Post w0 X) := by
  go_enter Tryd.func5, Tryd.ntmps5
  obtain ⟨c9, hc9⟩ : ∃ c, c = rest48 := ⟨_, rfl⟩
  have HC9 := Lib.hid hc9
  simp only [rest48, Tryd.f5, Option.getD_some, cutC] at hc9
  rw [← hc9]
  clear hc9
  have ht9 : (t : Int) ≤ 65536 := by omega
  have ht8 : (0 : Int) ≤ (t : Int) := by omega
  have hn9 : (n : Int) ≤ 65536 := by omega
  have hn8 : (0 : Int) ≤ (n : Int) := by omega
  have hn7 : IntKind.u32.wrap (n : Int) = (n : Int) := by rw [IntKind.wrap_u32]; omega
  have hnl9 : (nmx.size : Int) ≤ 1048576 := by omega
  have hnl8 : (0 : Int) ≤ (nmx.size : Int) := by omega
  go_wp2_with (first | (with_reducible refine Own.stay (fn := Tryd.f5) ?_) | (at_builtin; refine Own.appStop ?_) | (first | (go_at_call 22; go_in)))
  try with_reducible refine Own.Stay.mk ?_
  generalize hW : World.alloc _ _ = W2
  have hN : Own w0 W2 [row (w.heap.size + 1) 38 #[.pointer none, .pointer (some ⟨w.heap.size, 0, none⟩), .slice none 0 0, .map none, .slice none 0 0, .slice none 0 0, .int .i32 0, .int .i32 0, .int .u32 0, .int .u32 0, .bool false, .bool false, .bool false, .bool false, .int .u8 0, .int .u8 8], row (w.heap.size) 38 #[.pointer none, .pointer none, .slice none 0 0, .map none, .slice none 0 0, .slice none 0 0, .int .i32 0, .int .i32 0, .int .u32 0, .int .u32 0, .bool false, .bool false, .bool false, .bool false, .int .u8 0, .int .u8 6]] X := by
    rw [← hW]
    exact ((hO).alloc' _ (w.heap.size) (by simp)).alloc' _ (w.heap.size + 1) (by simp)
  clear hW hO
  generalize w.heap.size + 1 = B1_1 at hN ⊢
  generalize w.heap.size = B1 at hN ⊢
  have hO := hN
  clear hN
  have hN : Own w0 W2 [row (B1_1) 38 #[.pointer none, .pointer (some ⟨B1, 0, none⟩), .slice none 0 0, .map none, .slice none 0 0, .slice none 0 0, .int .i32 0, .int .i32 0, .int .u32 0, .int .u32 0, .bool false, .bool false, .bool false, .bool false, .int .u8 0, .int .u8 8], row (B1) 38 #[.pointer none, .pointer none, .slice none 0 0, .map none, .slice none 0 0, .slice none 0 0, .int .i32 0, .int .i32 0, .int .u32 0, .int .u32 0, .bool false, .bool false, .bool false, .bool false, .int .u8 0, .int .u8 6]] X := hO.sub [0, 1] (by decide)
  clear hO
  have hO := hN
  clear hN
  go_loopg [17, 18] 1 (fun gf s17 s18 wx => s18 = .int .i64 0 ∧ s17 = .pointer (some ⟨B1_1, 0, none⟩) ∧ Own w0 wx [row (B1_1) 38 #[.pointer none, .pointer (some ⟨B1, 0, none⟩), .slice none 0 0, .map none, .slice none 0 0, .slice none 0 0, .int .i32 0, .int .i32 0, .int .u32 0, .int .u32 0, .bool false, .bool false, .bool false, .bool false, .int .u8 0, .int .u8 8], row (B1) 38 #[.pointer none, .pointer none, .slice none 0 0, .map none, .slice none 0 0, .slice none 0 0, .int .i32 0, .int .i32 0, .int .u32 0, .int .u32 0, .bool false, .bool false, .bool false, .bool false, .int .u8 0, .int .u8 6]] X)
  case atStart => exact ⟨rfl, rfl, hO⟩
  obtain ⟨rfl, rfl, hO⟩ := hrel
  have c9_0_1 : wr.cell? ⟨B1_1, 1, none⟩ = some (.pointer (some ⟨B1, 0, none⟩)) := hO.cell 0 rfl (1) rfl
  have c9_0_5 : wr.cell? ⟨B1_1, 5, none⟩ = some (.slice none 0 0) := hO.cell 0 rfl (5) rfl
  have lt9_0 : B1_1 < wr.heap.size := hO.lt 0 rfl
  have y9_0 : ∀ o, wr.frozen? ⟨B1_1, o, none⟩ = false := hO.free 0 rfl
  have c9_1_1 : wr.cell? ⟨B1, 1, none⟩ = some (.pointer none) := hO.cell 1 rfl (1) rfl
  have c9_1_5 : wr.cell? ⟨B1, 5, none⟩ = some (.slice none 0 0) := hO.cell 1 rfl (5) rfl
  have lt9_1 : B1 < wr.heap.size := hO.lt 1 rfl
  have y9_1 : ∀ o, wr.frozen? ⟨B1, o, none⟩ = false := hO.free 1 rfl
  have HO := Lib.hid hO
  clear hO
  go_wp2_with (first | (with_reducible refine Own.stay (fn := Tryd.f5) ?_) | (at_builtin; refine Own.appStop ?_) | (first | (go_at_call 22; go_in)))
  try with_reducible refine Own.Stay.mk ?_
  have hO := HO.out
  clear HO c9_0_1 c9_0_5 lt9_0 y9_0 c9_1_1 c9_1_5 lt9_1 y9_1
  have hP9 : Own w0 wr ([] ++ [row (B1_1) 38 #[.pointer none, .pointer (some ⟨B1, 0, none⟩), .slice none 0 0, .map none, .slice none 0 0, .slice none 0 0, .int .i32 0, .int .i32 0, .int .u32 0, .int .u32 0, .bool false, .bool false, .bool false, .bool false, .int .u8 0, .int .u8 8], row (B1) 38 #[.pointer none, .pointer none, .slice none 0 0, .map none, .slice none 0 0, .slice none 0 0, .int .i32 0, .int .i32 0, .int .u32 0, .int .u32 0, .bool false, .bool false, .bool false, .bool false, .int .u8 0, .int .u8 6]]) X := hO
  clear hO
  have HT := Lib.hid hP9.tail
  replace hP9 := hP9.aside
  have T9 := newPU src n B1_1 B1 ts _ _ _ hP9 (by omega)
  refine Calls.mono T9 ?_
  clear hP9 T9
  rintro e uw3 ⟨nd4, nd5, nd6, nd7, rfl, pr8, pr9, pr10, pr11, pr12, pr13, pr14, pr15, pr16, pr17, pr18, hQ⟩
  replace hQ := hQ.bring HT.out
  clear HT
  have hO : Own w0 uw3 ([row (nd5) 176 nd4, row (nd6) 183 (full symZ (symL (zSys n)) 0), row (B1_1) 38 #[.pointer none, .pointer (some ⟨B1, 0, none⟩), .slice none 0 0, .map none, .slice none 0 0, .slice none 0 0, .int .i32 0, .int .i32 0, .int .u32 0, .int .u32 0, .bool false, .bool false, .bool false, .bool false, .int .u8 0, .int .u8 8], row (B1) 38 #[.pointer none, .pointer none, .slice none 0 0, .map none, .slice none 0 0, .slice none 0 0, .int .i32 0, .int .i32 0, .int .u32 0, .int .u32 0, .bool false, .bool false, .bool false, .bool false, .int .u8 0, .int .u8 6]] ++ optT ts (row (nd7) 22 (full u32Z (zU n) 0))) X := hQ.perm (perm1 [row (nd5) 176 nd4, row (nd6) 183 (full symZ (symL (zSys n)) 0)] [row (B1_1) 38 #[.pointer none, .pointer (some ⟨B1, 0, none⟩), .slice none 0 0, .map none, .slice none 0 0, .slice none 0 0, .int .i32 0, .int .i32 0, .int .u32 0, .int .u32 0, .bool false, .bool false, .bool false, .bool false, .int .u8 0, .int .u8 8], row (B1) 38 #[.pointer none, .pointer none, .slice none 0 0, .map none, .slice none 0 0, .slice none 0 0, .int .i32 0, .int .i32 0, .int .u32 0, .int .u32 0, .bool false, .bool false, .bool false, .bool false, .int .u8 0, .int .u8 6]] (optT ts (row (nd7) 22 (full u32Z (zU n) 0)))).symm
  clear hQ
  try simp only []
  have HBX1_19 := Lib.hid hO.tail
  have hN := hO.aside
  obtain ⟨X1_19, hX1_19⟩ : ∃ Y, Y = FR (optT ts (row (nd7) 22 (full u32Z (zU n) 0))) X := ⟨_, rfl⟩
  rw [← hX1_19] at hN
  have HX1_19 := Lib.hid hX1_19
  clear hO hX1_19
  have hO := hN
  clear hN
  have c9_2_1 : uw3.cell? ⟨B1_1, 1, none⟩ = some (.pointer (some ⟨B1, 0, none⟩)) := hO.cell 2 rfl (1) rfl
  have c9_2_5 : uw3.cell? ⟨B1_1, 5, none⟩ = some (.slice none 0 0) := hO.cell 2 rfl (5) rfl
  have lt9_2 : B1_1 < uw3.heap.size := hO.lt 2 rfl
  have y9_2 : ∀ o, uw3.frozen? ⟨B1_1, o, none⟩ = false := hO.free 2 rfl
  have c9_3_1 : uw3.cell? ⟨B1, 1, none⟩ = some (.pointer none) := hO.cell 3 rfl (1) rfl
  have c9_3_5 : uw3.cell? ⟨B1, 5, none⟩ = some (.slice none 0 0) := hO.cell 3 rfl (5) rfl
  have lt9_3 : B1 < uw3.heap.size := hO.lt 3 rfl
  have y9_3 : ∀ o, uw3.frozen? ⟨B1, o, none⟩ = false := hO.free 3 rfl
  have HO := Lib.hid hO
  clear hO
  go_wp2_with (first | (with_reducible refine Own.stay (fn := Tryd.f5) ?_) | (at_builtin; refine Own.appStop ?_) | (first | (go_at_call 22; go_in)))
  try with_reducible refine Own.Stay.mk ?_
  have hO := HO.out
  clear HO c9_2_1 c9_2_5 lt9_2 y9_2 c9_3_1 c9_3_5 lt9_3 y9_3
  have hL := hO.apart
  have hX := hO.apartX
  have HL := Lib.hid hL
  have HX := Lib.hid hX
  clear hL hX
  have hP9 := hO.pick [0] (by decide)
  have T9 := setCnt nd5 nd4 (t : Int) 0 (.int .i64 0) (.int .i64 0) _ _ _ hP9 pr17 pr15
  refine Calls.mono T9 ?_
  clear hP9 T9
  rintro e uw20 ⟨rfl, hQ⟩
  have hN : Own w0 uw20 [row (nd5) 176 ((nd4.setIfInBounds 287 (.int .i64 (t : Int))).setIfInBounds 288 (.int .i64 0)), row (nd6) 183 (full symZ (symL (zSys n)) 0), row (B1_1) 38 #[.pointer none, .pointer (some ⟨B1, 0, none⟩), .slice none 0 0, .map none, .slice none 0 0, .slice none 0 0, .int .i32 0, .int .i32 0, .int .u32 0, .int .u32 0, .bool false, .bool false, .bool false, .bool false, .int .u8 0, .int .u8 8], row (B1) 38 #[.pointer none, .pointer none, .slice none 0 0, .map none, .slice none 0 0, .slice none 0 0, .int .i32 0, .int .i32 0, .int .u32 0, .int .u32 0, .bool false, .bool false, .bool false, .bool false, .int .u8 0, .int .u8 6]] X1_19 := hQ.back HL.out HX.out [1, 2, 3] (by decide) (by decide)
  clear hQ HL HX hO
  have hO := hN
  clear hN
  try simp only []
  have c9_2_1 : uw20.cell? ⟨B1_1, 1, none⟩ = some (.pointer (some ⟨B1, 0, none⟩)) := hO.cell 2 rfl (1) rfl
  have c9_2_5 : uw20.cell? ⟨B1_1, 5, none⟩ = some (.slice none 0 0) := hO.cell 2 rfl (5) rfl
  have lt9_2 : B1_1 < uw20.heap.size := hO.lt 2 rfl
  have y9_2 : ∀ o, uw20.frozen? ⟨B1_1, o, none⟩ = false := hO.free 2 rfl
  have c9_3_1 : uw20.cell? ⟨B1, 1, none⟩ = some (.pointer none) := hO.cell 3 rfl (1) rfl
  have c9_3_5 : uw20.cell? ⟨B1, 5, none⟩ = some (.slice none 0 0) := hO.cell 3 rfl (5) rfl
  have lt9_3 : B1 < uw20.heap.size := hO.lt 3 rfl
  have y9_3 : ∀ o, uw20.frozen? ⟨B1, o, none⟩ = false := hO.free 3 rfl
  have HO := Lib.hid hO
  clear hO
  go_wp2_with (first | (with_reducible refine Own.stay (fn := Tryd.f5) ?_) | (at_builtin; refine Own.appStop ?_) | (first | (go_at_call 22; go_in)))
  try with_reducible refine Own.Stay.mk ?_
  have hO := HO.out
  clear HO c9_2_1 c9_2_5 lt9_2 y9_2 c9_3_1 c9_3_5 lt9_3 y9_3
  have hN : Own w0 uw20 [row (nd5) 176 ((nd4.setIfInBounds 287 (.int .i64 (t : Int))).setIfInBounds 288 (.int .i64 0)), row (nd6) 183 (full symZ (symL (zSys n)) 0), row (B1_1) 38 #[.pointer none, .pointer (some ⟨B1, 0, none⟩), .slice none 0 0, .map none, .slice none 0 0, .slice none 0 0, .int .i32 0, .int .i32 0, .int .u32 0, .int .u32 0, .bool false, .bool false, .bool false, .bool false, .int .u8 0, .int .u8 8], row (B1) 38 #[.pointer none, .pointer none, .slice none 0 0, .map none, .slice none 0 0, .slice none 0 0, .int .i32 0, .int .i32 0, .int .u32 0, .int .u32 0, .bool false, .bool false, .bool false, .bool false, .int .u8 0, .int .u8 6]] X1_19 := hO.sub [0, 1, 2, 3] (by decide)
  clear hO
  have hO := hN
  clear hN
  rw [HX1_19.out] at hO
  have hN := hO.bring HBX1_19.out
  clear hO
  have hO := hN
  clear hN
  have hP9 : Own w0 uw20 (([row (nd5) 176 ((nd4.setIfInBounds 287 (.int .i64 (t : Int))).setIfInBounds 288 (.int .i64 0)), row (nd6) 183 (full symZ (symL (zSys n)) 0), row (B1_1) 38 #[.pointer none, .pointer (some ⟨B1, 0, none⟩), .slice none 0 0, .map none, .slice none 0 0, .slice none 0 0, .int .i32 0, .int .i32 0, .int .u32 0, .int .u32 0, .bool false, .bool false, .bool false, .bool false, .int .u8 0, .int .u8 8]] ++ optT ts (row (nd7) 22 (full u32Z (zU n) 0))) ++ [row (B1) 38 #[.pointer none, .pointer none, .slice none 0 0, .map none, .slice none 0 0, .slice none 0 0, .int .i32 0, .int .i32 0, .int .u32 0, .int .u32 0, .bool false, .bool false, .bool false, .bool false, .int .u8 0, .int .u8 6]]) X := hO.perm (perm1 [row (nd5) 176 ((nd4.setIfInBounds 287 (.int .i64 (t : Int))).setIfInBounds 288 (.int .i64 0)), row (nd6) 183 (full symZ (symL (zSys n)) 0), row (B1_1) 38 #[.pointer none, .pointer (some ⟨B1, 0, none⟩), .slice none 0 0, .map none, .slice none 0 0, .slice none 0 0, .int .i32 0, .int .i32 0, .int .u32 0, .int .u32 0, .bool false, .bool false, .bool false, .bool false, .int .u8 0, .int .u8 8]] [row (B1) 38 #[.pointer none, .pointer none, .slice none 0 0, .map none, .slice none 0 0, .slice none 0 0, .int .i32 0, .int .i32 0, .int .u32 0, .int .u32 0, .bool false, .bool false, .bool false, .bool false, .int .u8 0, .int .u8 6]] (optT ts (row (nd7) 22 (full u32Z (zU n) 0))))
  clear hO
  have HT := Lib.hid hP9.tail
  replace hP9 := hP9.aside
  have h9_htl : (zU n).length = n := (zU_length _)
  have h9_hn : (zSys n).length = n := (zSys_length _)
  have h9_hnb : n ≤ 2000000 := (by omega)
  have h9_hi : t ≤ 100000 := (by omega)
  have T9 := uvC nd5 ((nd4.setIfInBounds 287 (.int .i64 (t : Int))).setIfInBounds 288 (.int .i64 0)) nd6 0 (zSys n) n nd7 (zU n) 0 ts src t B1_1 #[.pointer none, .pointer (some ⟨B1, 0, none⟩), .slice none 0 0, .map none, .slice none 0 0, .slice none 0 0, .int .i32 0, .int .i32 0, .int .u32 0, .int .u32 0, .bool false, .bool false, .bool false, .bool false, .int .u8 0, .int .u8 8] (.pointer (some ⟨B1, 0, none⟩)) (.slice none 0 0) (.int .i64 0) (.pointer (some ⟨B1, 0, none⟩)) nmx _ _ _ hP9 (get_other (get_other pr8 (by omega) _) (by omega) _) (get_other (get_other pr9 (by omega) _) (by omega) _) (get_other (get_other pr11 (by omega) _) (by omega) _) h9_htl (get_other (get_other pr10 (by omega) _) (by omega) _) h9_hn h9_hnb (get_other (get_other pr12 (by omega) _) (by omega) _) (get_other (get_other pr13 (by omega) _) (by omega) _) (get_other (get_other pr14 (by omega) _) (by omega) _) (get_set (get_other pr15 (by omega) _) _) (get_other (get_set pr17 _) (by omega) _) (get_other (get_other pr16 (by omega) _) (by omega) _) (get_other (get_other pr18 (by omega) _) (by omega) _) rfl rfl rfl h9_hi hg0 hg1
  refine Calls.mono T9 ?_
  clear hP9 T9 h9_htl h9_hn h9_hnb h9_hi
  rintro e uw21 ⟨nd22, nd23, nd24, nd25, nd26, nd27, nd28, nd29, nd30, nd31, rfl, pr32, pr33, pr34, pr35, pr36, pr37, pr38, pr39, pr40, pr41, pr42, pr43, pr44, pr45, hQ⟩
  replace hQ := hQ.bring HT.out
  clear HT
  have hO : Own w0 uw21 ([row (nd5) 176 nd22, row (nd24) 183 (full symZ (symL ((zSys n) ++ [syk (nmO t nmx) 27])) nd25), row (B1_1) 38 nd23, row (nd28) 185 (full trfZ ([.nilIface, .int .i32 0, .int .u32 src, .int .u32 (n : Int)]) nd29), row (nd30) 33 (full refZ ([.int .u32 src, .int .u32 (n : Int)]) nd31), row (B1) 38 #[.pointer none, .pointer none, .slice none 0 0, .map none, .slice none 0 0, .slice none 0 0, .int .i32 0, .int .i32 0, .int .u32 0, .int .u32 0, .bool false, .bool false, .bool false, .bool false, .int .u8 0, .int .u8 6]] ++ optT ts (row (nd26) 22 (full u32Z ((zU n) ++ [.int .u32 0]) nd27))) X := hQ.perm (perm1 [row (nd5) 176 nd22, row (nd24) 183 (full symZ (symL ((zSys n) ++ [syk (nmO t nmx) 27])) nd25), row (B1_1) 38 nd23, row (nd28) 185 (full trfZ ([.nilIface, .int .i32 0, .int .u32 src, .int .u32 (n : Int)]) nd29), row (nd30) 33 (full refZ ([.int .u32 src, .int .u32 (n : Int)]) nd31)] [row (B1) 38 #[.pointer none, .pointer none, .slice none 0 0, .map none, .slice none 0 0, .slice none 0 0, .int .i32 0, .int .i32 0, .int .u32 0, .int .u32 0, .bool false, .bool false, .bool false, .bool false, .int .u8 0, .int .u8 6]] (optT ts (row (nd26) 22 (full u32Z ((zU n) ++ [.int .u32 0]) nd27)))).symm
  clear hQ
  try simp only []
  have HBX1_46 := Lib.hid hO.tail
  have hN := hO.aside
  obtain ⟨X1_46, hX1_46⟩ : ∃ Y, Y = FR (optT ts (row (nd26) 22 (full u32Z ((zU n) ++ [.int .u32 0]) nd27))) X := ⟨_, rfl⟩
  rw [← hX1_46] at hN
  have HX1_46 := Lib.hid hX1_46
  clear hO hX1_46
  have hO := hN
  clear hN
  have hN : Own w0 uw21 [row (nd5) 176 nd22, row (nd24) 183 (full symZ (symL ((zSys n) ++ [syk (nmO t nmx) 27])) nd25), row (B1_1) 38 nd23, row (nd28) 185 (full trfZ [.nilIface, .int .i32 0, .int .u32 src, .int .u32 (n : Int)] nd29), row (nd30) 33 (full refZ [.int .u32 src, .int .u32 (n : Int)] nd31), row (B1) 38 #[.pointer none, .pointer none, .slice none 0 0, .map none, .slice none 0 0, .slice none 0 0, .int .i32 0, .int .i32 0, .int .u32 0, .int .u32 0, .bool false, .bool false, .bool false, .bool false, .int .u8 0, .int .u8 6]] X1_46 := hO
  clear hO
  have hO := hN
  clear hN
  have c9_5_1 : uw21.cell? ⟨B1, 1, none⟩ = some (.pointer none) := hO.cell 5 rfl (1) rfl
  have c9_5_5 : uw21.cell? ⟨B1, 5, none⟩ = some (.slice none 0 0) := hO.cell 5 rfl (5) rfl
  have lt9_5 : B1 < uw21.heap.size := hO.lt 5 rfl
  have y9_5 : ∀ o, uw21.frozen? ⟨B1, o, none⟩ = false := hO.free 5 rfl
  have HO := Lib.hid hO
  clear hO
  go_wp2_with (first | (with_reducible refine Own.stay (fn := Tryd.f5) ?_) | (at_builtin; refine Own.appStop ?_) | (first | (go_at_call 22; go_in)))
  try with_reducible refine Own.Stay.mk ?_
  have hO := HO.out
  clear HO c9_5_1 c9_5_5 lt9_5 y9_5
  generalize hW : World.alloc _ _ = W48
  have hN : Own w0 W48 [row (uw21.heap.size) 33 #[.int .u32 src, .int .u32 (n : Int)], row (nd5) 176 nd22, row (nd24) 183 (full symZ (symL ((zSys n) ++ [syk (nmO t nmx) 27])) nd25), row (B1_1) 38 nd23, row (nd28) 185 (full trfZ [.nilIface, .int .i32 0, .int .u32 src, .int .u32 (n : Int)] nd29), row (nd30) 33 (full refZ [.int .u32 src, .int .u32 (n : Int)] nd31), row (B1) 38 #[.pointer none, .pointer none, .slice none 0 0, .map none, .slice none 0 0, .slice none 0 0, .int .i32 0, .int .i32 0, .int .u32 0, .int .u32 0, .bool false, .bool false, .bool false, .bool false, .int .u8 0, .int .u8 6]] X1_46 := by
    rw [← hW]
    exact (hO).alloc' _ (uw21.heap.size) (by simp)
  clear hW hO
  generalize uw21.heap.size = B47 at hN ⊢
  have hO := hN
  clear hN
  have hL := hO.apart
  have hX := hO.apartX
  have HL := Lib.hid hL
  have HX := Lib.hid hX
  clear hL hX
  have hP9 := hO.pick [1] (by decide)
  have T9 := symCnt8 nd5 nd22 nd24 nd25 n _ _ _ hP9 pr35
  refine Calls.mono T9 ?_
  clear hP9 T9
  rintro e uw49 ⟨rfl, hQ⟩
  have hN : Own w0 uw49 [row (nd5) 176 nd22, row (B47) 33 #[.int .u32 src, .int .u32 (n : Int)], row (nd24) 183 (full symZ (symL ((zSys n) ++ [syk (nmO t nmx) 27])) nd25), row (B1_1) 38 nd23, row (nd28) 185 (full trfZ [.nilIface, .int .i32 0, .int .u32 src, .int .u32 (n : Int)] nd29), row (nd30) 33 (full refZ [.int .u32 src, .int .u32 (n : Int)] nd31), row (B1) 38 #[.pointer none, .pointer none, .slice none 0 0, .map none, .slice none 0 0, .slice none 0 0, .int .i32 0, .int .i32 0, .int .u32 0, .int .u32 0, .bool false, .bool false, .bool false, .bool false, .int .u8 0, .int .u8 6]] X1_46 := hQ.back HL.out HX.out [0, 2, 3, 4, 5, 6] (by decide) (by decide)
  clear hQ HL HX hO
  have hO := hN
  clear hN
  try simp only []
  obtain ⟨c9_1_0, c9_1_1, lt9_1, y9_1, -⟩ := hO.k2 1 rfl
  have c9_6_1 : uw49.cell? ⟨B1, 1, none⟩ = some (.pointer none) := hO.cell 6 rfl (1) rfl
  have c9_6_5 : uw49.cell? ⟨B1, 5, none⟩ = some (.slice none 0 0) := hO.cell 6 rfl (5) rfl
  have lt9_6 : B1 < uw49.heap.size := hO.lt 6 rfl
  have y9_6 : ∀ o, uw49.frozen? ⟨B1, o, none⟩ = false := hO.free 6 rfl
  have HO := Lib.hid hO
  clear hO
  go_wp2_with (first | (with_reducible refine Own.stay (fn := Tryd.f5) ?_) | (at_builtin; refine Own.appStop ?_) | (first | (go_at_call 22; go_in)))
  try with_reducible refine Own.Stay.mk ?_
  have hO := HO.out
  clear HO c9_1_0 c9_1_1 lt9_1 y9_1 c9_6_1 c9_6_5 lt9_6 y9_6
  have hL := hO.apart
  have hX := hO.apartX
  have HL := Lib.hid hL
  have HX := Lib.hid hX
  clear hL hX
  have hP9 := hO.pick [0, 2] (by decide)
  have h9_hn5 : n ≤ 100000 := (by first | assumption | omega | (simp; done) | (simp; omega))
  have T9 := symKd8 nd5 nd22 nd24 nd25 n (nmO t nmx) _ _ _ hP9 pr35 h9_hn5
  refine Calls.mono T9 ?_
  clear hP9 T9 h9_hn5
  rintro e uw50 ⟨rfl, hQ⟩
  have hN : Own w0 uw50 [row (nd5) 176 nd22, row (nd24) 183 (full symZ (symL ((zSys n) ++ [syk (nmO t nmx) 27])) nd25), row (B47) 33 #[.int .u32 src, .int .u32 (n : Int)], row (B1_1) 38 nd23, row (nd28) 185 (full trfZ [.nilIface, .int .i32 0, .int .u32 src, .int .u32 (n : Int)] nd29), row (nd30) 33 (full refZ [.int .u32 src, .int .u32 (n : Int)] nd31), row (B1) 38 #[.pointer none, .pointer none, .slice none 0 0, .map none, .slice none 0 0, .slice none 0 0, .int .i32 0, .int .i32 0, .int .u32 0, .int .u32 0, .bool false, .bool false, .bool false, .bool false, .int .u8 0, .int .u8 6]] X1_46 := hQ.back HL.out HX.out [1, 3, 4, 5, 6] (by decide) (by decide)
  clear hQ HL HX hO
  have hO := hN
  clear hN
  try simp only []
  cases ts
  · skip
    by_cases hng : 0 < nmx.size
    · skip
      have hN : Own w0 uw50 [row (nd5) 176 nd22, row (nd24) 183 (full symZ (symL ((zSys n) ++ [syk nmx 27])) nd25), row (B47) 33 #[.int .u32 src, .int .u32 (n : Int)], row (B1_1) 38 nd23, row (nd28) 185 (full trfZ [.nilIface, .int .i32 0, .int .u32 src, .int .u32 (n : Int)] nd29), row (nd30) 33 (full refZ [.int .u32 src, .int .u32 (n : Int)] nd31), row (B1) 38 #[.pointer none, .pointer none, .slice none 0 0, .map none, .slice none 0 0, .slice none 0 0, .int .i32 0, .int .i32 0, .int .u32 0, .int .u32 0, .bool false, .bool false, .bool false, .bool false, .int .u8 0, .int .u8 6]] X1_46 := hO.conv (by rw [nmO_g hng])
      clear hO
      have hO := hN
      clear hN
      have htr9 : nd22[287]? = some (.int .i64 (t : Int)) := by
        have h := pr40
        rw [trO_g hng] at h
        exact h
      have hnz9 : nmx.toList ≠ [] := by
        rw [Lib.toList_data]
        intro e
        have h9 := congrArg List.length e
        rw [Array.length_toList] at h9
        exact absurd (by have h8 : nmx.data.size = 0 := h9; exact h8 : nmx.size = 0) (by omega)
      have hnn : (nmx.toList == ([] : List UInt8)) = false := by rw [beq_eq_false_iff_ne]; exact hnz9
      have hnm : (nmx.toList == (⟨#[]⟩ : ByteArray).toList) = false := by
        rw [Lib.toList_data (⟨#[]⟩ : ByteArray)]
        exact hnn
      obtain ⟨c9_2_0, c9_2_1, lt9_2, y9_2, -⟩ := hO.k2 2 rfl
      have c9_6_1 : uw50.cell? ⟨B1, 1, none⟩ = some (.pointer none) := hO.cell 6 rfl (1) rfl
      have c9_6_5 : uw50.cell? ⟨B1, 5, none⟩ = some (.slice none 0 0) := hO.cell 6 rfl (5) rfl
      have lt9_6 : B1 < uw50.heap.size := hO.lt 6 rfl
      have y9_6 : ∀ o, uw50.frozen? ⟨B1, o, none⟩ = false := hO.free 6 rfl
      have HO := Lib.hid hO
      clear hO
      go_wp2_with (first | (with_reducible refine Own.stay (fn := Tryd.f5) ?_) | (at_builtin; refine Own.appStop ?_) | (first | (go_at_call 22; go_in)))
      try with_reducible refine Own.Stay.mk ?_
      have hO := HO.out
      clear HO c9_2_0 c9_2_1 lt9_2 y9_2 c9_6_1 c9_6_5 lt9_6 y9_6
      have hL := hO.apart
      have hX := hO.apartX
      have HL := Lib.hid hL
      have HX := Lib.hid hX
      clear hL hX
      have hP9 := hO.pick [0] (by decide)
      have T9 := tsLen0 nd5 nd22 _ _ _ hP9 pr34
      refine Calls.mono T9 ?_
      clear hP9 T9
      rintro e uw51 ⟨rfl, hQ⟩
      have hN : Own w0 uw51 [row (nd5) 176 nd22, row (nd24) 183 (full symZ (symL ((zSys n) ++ [syk nmx 27])) nd25), row (B47) 33 #[.int .u32 src, .int .u32 (n : Int)], row (B1_1) 38 nd23, row (nd28) 185 (full trfZ [.nilIface, .int .i32 0, .int .u32 src, .int .u32 (n : Int)] nd29), row (nd30) 33 (full refZ [.int .u32 src, .int .u32 (n : Int)] nd31), row (B1) 38 #[.pointer none, .pointer none, .slice none 0 0, .map none, .slice none 0 0, .slice none 0 0, .int .i32 0, .int .i32 0, .int .u32 0, .int .u32 0, .bool false, .bool false, .bool false, .bool false, .int .u8 0, .int .u8 6]] X1_46 := hQ.back HL.out HX.out [1, 2, 3, 4, 5, 6] (by decide) (by decide)
      clear hQ HL HX hO
      have hO := hN
      clear hN
      try simp only []
      obtain ⟨c9_2_0, c9_2_1, lt9_2, y9_2, -⟩ := hO.k2 2 rfl
      have c9_6_1 : uw51.cell? ⟨B1, 1, none⟩ = some (.pointer none) := hO.cell 6 rfl (1) rfl
      have c9_6_5 : uw51.cell? ⟨B1, 5, none⟩ = some (.slice none 0 0) := hO.cell 6 rfl (5) rfl
      have lt9_6 : B1 < uw51.heap.size := hO.lt 6 rfl
      have y9_6 : ∀ o, uw51.frozen? ⟨B1, o, none⟩ = false := hO.free 6 rfl
      have HO := Lib.hid hO
      clear hO
      go_wp2_with (first | (with_reducible refine Own.stay (fn := Tryd.f5) ?_) | (at_builtin; refine Own.appStop ?_) | (first | (go_at_call 22; go_in)))
      try with_reducible refine Own.Stay.mk ?_
      have hO := HO.out
      clear HO c9_2_0 c9_2_1 lt9_2 y9_2 c9_6_1 c9_6_5 lt9_6 y9_6
      have hL := hO.apart
      have hX := hO.apartX
      have HL := Lib.hid hL
      have HX := Lib.hid hX
      clear hL hX
      have hP9 := hO.pick [0, 1] (by decide)
      have h9_hn5 : n ≤ 100000 := (by first | assumption | omega | (simp; done) | (simp; omega))
      have T9 := symNm8 nd5 nd22 nd24 nd25 n nmx _ _ _ hP9 pr35 h9_hn5
      refine Calls.mono T9 ?_
      clear hP9 T9 h9_hn5
      rintro e uw52 ⟨rfl, hQ⟩
      have hN : Own w0 uw52 [row (nd5) 176 nd22, row (nd24) 183 (full symZ (symL ((zSys n) ++ [syk nmx 27])) nd25), row (B47) 33 #[.int .u32 src, .int .u32 (n : Int)], row (B1_1) 38 nd23, row (nd28) 185 (full trfZ [.nilIface, .int .i32 0, .int .u32 src, .int .u32 (n : Int)] nd29), row (nd30) 33 (full refZ [.int .u32 src, .int .u32 (n : Int)] nd31), row (B1) 38 #[.pointer none, .pointer none, .slice none 0 0, .map none, .slice none 0 0, .slice none 0 0, .int .i32 0, .int .i32 0, .int .u32 0, .int .u32 0, .bool false, .bool false, .bool false, .bool false, .int .u8 0, .int .u8 6]] X1_46 := hQ.back HL.out HX.out [2, 3, 4, 5, 6] (by decide) (by decide)
      clear hQ HL HX hO
      have hO := hN
      clear hN
      try simp only []
      obtain ⟨c9_2_0, c9_2_1, lt9_2, y9_2, -⟩ := hO.k2 2 rfl
      have c9_6_1 : uw52.cell? ⟨B1, 1, none⟩ = some (.pointer none) := hO.cell 6 rfl (1) rfl
      have c9_6_5 : uw52.cell? ⟨B1, 5, none⟩ = some (.slice none 0 0) := hO.cell 6 rfl (5) rfl
      have lt9_6 : B1 < uw52.heap.size := hO.lt 6 rfl
      have y9_6 : ∀ o, uw52.frozen? ⟨B1, o, none⟩ = false := hO.free 6 rfl
      have HO := Lib.hid hO
      clear hO
      go_wp2_with (first | (with_reducible refine Own.stay (fn := Tryd.f5) ?_) | (at_builtin; refine Own.appStop ?_) | (first | (go_at_call 22; go_in)))
      try with_reducible refine Own.Stay.mk ?_
      have hO := HO.out
      clear HO c9_2_0 c9_2_1 lt9_2 y9_2 c9_6_1 c9_6_5 lt9_6 y9_6
      have hL := hO.apart
      have hX := hO.apartX
      have HL := Lib.hid hL
      have HX := Lib.hid hX
      clear hL hX
      have hP9 := hO.pick [0] (by decide)
      have T9 := tmpCnt nd5 nd22 (t : Int) _ _ _ hP9 htr9
      refine Calls.mono T9 ?_
      clear hP9 T9
      rintro e uw53 ⟨rfl, hQ⟩
      have hN : Own w0 uw53 [row (nd5) 176 nd22, row (nd24) 183 (full symZ (symL ((zSys n) ++ [syk nmx 27])) nd25), row (B47) 33 #[.int .u32 src, .int .u32 (n : Int)], row (B1_1) 38 nd23, row (nd28) 185 (full trfZ [.nilIface, .int .i32 0, .int .u32 src, .int .u32 (n : Int)] nd29), row (nd30) 33 (full refZ [.int .u32 src, .int .u32 (n : Int)] nd31), row (B1) 38 #[.pointer none, .pointer none, .slice none 0 0, .map none, .slice none 0 0, .slice none 0 0, .int .i32 0, .int .i32 0, .int .u32 0, .int .u32 0, .bool false, .bool false, .bool false, .bool false, .int .u8 0, .int .u8 6]] X1_46 := hQ.back HL.out HX.out [1, 2, 3, 4, 5, 6] (by decide) (by decide)
      clear hQ HL HX hO
      have hO := hN
      clear hN
      try simp only []
      obtain ⟨c9_2_0, c9_2_1, lt9_2, y9_2, -⟩ := hO.k2 2 rfl
      have c9_6_1 : uw53.cell? ⟨B1, 1, none⟩ = some (.pointer none) := hO.cell 6 rfl (1) rfl
      have c9_6_5 : uw53.cell? ⟨B1, 5, none⟩ = some (.slice none 0 0) := hO.cell 6 rfl (5) rfl
      have lt9_6 : B1 < uw53.heap.size := hO.lt 6 rfl
      have y9_6 : ∀ o, uw53.frozen? ⟨B1, o, none⟩ = false := hO.free 6 rfl
      have HO := Lib.hid hO
      clear hO
      go_wp2_with (first | (with_reducible refine Own.stay (fn := Tryd.f5) ?_) | (at_builtin; refine Own.appStop ?_) | (first | (go_at_call 22; go_in)))
      try with_reducible refine Own.Stay.mk ?_
      have hO := HO.out
      clear HO c9_2_0 c9_2_1 lt9_2 y9_2 c9_6_1 c9_6_5 lt9_6 y9_6
      have hN : Own w0 uw53 [row (nd5) 176 nd22, row (B1_1) 38 nd23, row (nd28) 185 (full trfZ [.nilIface, .int .i32 0, .int .u32 src, .int .u32 (n : Int)] nd29), row (nd30) 33 (full refZ [.int .u32 src, .int .u32 (n : Int)] nd31), row (B1) 38 #[.pointer none, .pointer none, .slice none 0 0, .map none, .slice none 0 0, .slice none 0 0, .int .i32 0, .int .i32 0, .int .u32 0, .int .u32 0, .bool false, .bool false, .bool false, .bool false, .int .u8 0, .int .u8 6], row (B47) 33 #[.int .u32 src, .int .u32 (n : Int)]] X1_46 := hO.sub [0, 3, 4, 5, 6, 2] (by decide)
      clear hO
      have hO := hN
      clear hN
      have hXX : ∀ b o, X b o → X1_46 b o := by
        intro b o hx
        rw [HX1_46.out]
        exact Or.inl hx
      rw [HC9.out]
      exact tl48C nd5 nd22 B1_1 nd23 nd30 nd31 nd28 nd29 B1 B47 src n _ _ _ _ _ _ _ _ _ _ _ _ _ _ _ _ _ _ _ _ _ _ _ _ _ _ _ _ _ _ _ _ _ _ _ _ _ _ _ _ _ _ _ _ _ _ _ _ _ _ _ _ _ _ _ _ _ _ _ _ _ _ _ _ _ _ _ _ _ _ _ _ _ _ _ _ _ _ _ _ _ _ _ _ _ _ _ _ _ _ _ _ _ _ _ _ _ _ _ _ _ _ _ _ _ _ _ _ _ _ _ _ _ _ _ _ _ _ _ _ _ _ _ _ _ _ _ _ _ _ _ _ _ _ _ _ _ _ _ _ _ _ _ _ _ _ _ _ _ _ _ _ _ _ _ _ _ _ _ _ _ _ _ _ _ _ _ _ _ _ _ _ _ _ _ _ _ _ _ _ _ _ _ _ _ _ _ _ _ _ _ _ _ _ _ _ _ _ _ _ _ _ _ _ _ _ _ _ _ _ _ _ _ _ _ _ _ _ _ _ _ _ _ _ _ _ _ _ _ _ _ _ _ _ _ w0 _ X _ hO hXX pr38 pr39 pr41 pr42 pr44 pr45
    · skip
      obtain rfl := nil_of_size hng
      have hN : Own w0 uw50 [row (nd5) 176 nd22, row (nd24) 183 (full symZ (symL ((zSys n) ++ [syk (tn t) 27])) nd25), row (B47) 33 #[.int .u32 src, .int .u32 (n : Int)], row (B1_1) 38 nd23, row (nd28) 185 (full trfZ [.nilIface, .int .i32 0, .int .u32 src, .int .u32 (n : Int)] nd29), row (nd30) 33 (full refZ [.int .u32 src, .int .u32 (n : Int)] nd31), row (B1) 38 #[.pointer none, .pointer none, .slice none 0 0, .map none, .slice none 0 0, .slice none 0 0, .int .i32 0, .int .i32 0, .int .u32 0, .int .u32 0, .bool false, .bool false, .bool false, .bool false, .int .u8 0, .int .u8 6]] X1_46 := hO.conv (by rw [nmO_e])
      clear hO
      have hO := hN
      clear hN
      have htr9 : nd22[287]? = some (.int .i64 ((t : Int) + 1)) := by
        have h := pr40
        rw [trO_e] at h
        exact h
      have htn := tn_size t
      have htn9 : (2 : Int) ≤ ((tn t).size : Int) := by omega
      have htp : 0 < (tn t).size := by omega
      have htc := tn_at0 t htp
      obtain ⟨c9_2_0, c9_2_1, lt9_2, y9_2, -⟩ := hO.k2 2 rfl
      have c9_6_1 : uw50.cell? ⟨B1, 1, none⟩ = some (.pointer none) := hO.cell 6 rfl (1) rfl
      have c9_6_5 : uw50.cell? ⟨B1, 5, none⟩ = some (.slice none 0 0) := hO.cell 6 rfl (5) rfl
      have lt9_6 : B1 < uw50.heap.size := hO.lt 6 rfl
      have y9_6 : ∀ o, uw50.frozen? ⟨B1, o, none⟩ = false := hO.free 6 rfl
      have HO := Lib.hid hO
      clear hO
      go_wp2_with (first | (with_reducible refine Own.stay (fn := Tryd.f5) ?_) | (at_builtin; refine Own.appStop ?_) | (first | (go_at_call 22; go_in)))
      try with_reducible refine Own.Stay.mk ?_
      have hO := HO.out
      clear HO c9_2_0 c9_2_1 lt9_2 y9_2 c9_6_1 c9_6_5 lt9_6 y9_6
      have hL := hO.apart
      have hX := hO.apartX
      have HL := Lib.hid hL
      have HX := Lib.hid hX
      clear hL hX
      have hP9 := hO.pick [0] (by decide)
      have T9 := tsLen0 nd5 nd22 _ _ _ hP9 pr34
      refine Calls.mono T9 ?_
      clear hP9 T9
      rintro e uw54 ⟨rfl, hQ⟩
      have hN : Own w0 uw54 [row (nd5) 176 nd22, row (nd24) 183 (full symZ (symL ((zSys n) ++ [syk (tn t) 27])) nd25), row (B47) 33 #[.int .u32 src, .int .u32 (n : Int)], row (B1_1) 38 nd23, row (nd28) 185 (full trfZ [.nilIface, .int .i32 0, .int .u32 src, .int .u32 (n : Int)] nd29), row (nd30) 33 (full refZ [.int .u32 src, .int .u32 (n : Int)] nd31), row (B1) 38 #[.pointer none, .pointer none, .slice none 0 0, .map none, .slice none 0 0, .slice none 0 0, .int .i32 0, .int .i32 0, .int .u32 0, .int .u32 0, .bool false, .bool false, .bool false, .bool false, .int .u8 0, .int .u8 6]] X1_46 := hQ.back HL.out HX.out [1, 2, 3, 4, 5, 6] (by decide) (by decide)
      clear hQ HL HX hO
      have hO := hN
      clear hN
      try simp only []
      obtain ⟨c9_2_0, c9_2_1, lt9_2, y9_2, -⟩ := hO.k2 2 rfl
      have c9_6_1 : uw54.cell? ⟨B1, 1, none⟩ = some (.pointer none) := hO.cell 6 rfl (1) rfl
      have c9_6_5 : uw54.cell? ⟨B1, 5, none⟩ = some (.slice none 0 0) := hO.cell 6 rfl (5) rfl
      have lt9_6 : B1 < uw54.heap.size := hO.lt 6 rfl
      have y9_6 : ∀ o, uw54.frozen? ⟨B1, o, none⟩ = false := hO.free 6 rfl
      have HO := Lib.hid hO
      clear hO
      go_wp2_with (first | (with_reducible refine Own.stay (fn := Tryd.f5) ?_) | (at_builtin; refine Own.appStop ?_) | (first | (go_at_call 22; go_in)))
      try with_reducible refine Own.Stay.mk ?_
      have hO := HO.out
      clear HO c9_2_0 c9_2_1 lt9_2 y9_2 c9_6_1 c9_6_5 lt9_6 y9_6
      have hL := hO.apart
      have hX := hO.apartX
      have HL := Lib.hid hL
      have HX := Lib.hid hX
      clear hL hX
      have hP9 := hO.pick [0, 1] (by decide)
      have h9_hn5 : n ≤ 100000 := (by first | assumption | omega | (simp; done) | (simp; omega))
      have T9 := symNm8 nd5 nd22 nd24 nd25 n (tn t) _ _ _ hP9 pr35 h9_hn5
      refine Calls.mono T9 ?_
      clear hP9 T9 h9_hn5
      rintro e uw55 ⟨rfl, hQ⟩
      have hN : Own w0 uw55 [row (nd5) 176 nd22, row (nd24) 183 (full symZ (symL ((zSys n) ++ [syk (tn t) 27])) nd25), row (B47) 33 #[.int .u32 src, .int .u32 (n : Int)], row (B1_1) 38 nd23, row (nd28) 185 (full trfZ [.nilIface, .int .i32 0, .int .u32 src, .int .u32 (n : Int)] nd29), row (nd30) 33 (full refZ [.int .u32 src, .int .u32 (n : Int)] nd31), row (B1) 38 #[.pointer none, .pointer none, .slice none 0 0, .map none, .slice none 0 0, .slice none 0 0, .int .i32 0, .int .i32 0, .int .u32 0, .int .u32 0, .bool false, .bool false, .bool false, .bool false, .int .u8 0, .int .u8 6]] X1_46 := hQ.back HL.out HX.out [2, 3, 4, 5, 6] (by decide) (by decide)
      clear hQ HL HX hO
      have hO := hN
      clear hN
      try simp only []
      obtain ⟨c9_2_0, c9_2_1, lt9_2, y9_2, -⟩ := hO.k2 2 rfl
      have c9_6_1 : uw55.cell? ⟨B1, 1, none⟩ = some (.pointer none) := hO.cell 6 rfl (1) rfl
      have c9_6_5 : uw55.cell? ⟨B1, 5, none⟩ = some (.slice none 0 0) := hO.cell 6 rfl (5) rfl
      have lt9_6 : B1 < uw55.heap.size := hO.lt 6 rfl
      have y9_6 : ∀ o, uw55.frozen? ⟨B1, o, none⟩ = false := hO.free 6 rfl
      have HO := Lib.hid hO
      clear hO
      go_wp2_with (first | (with_reducible refine Own.stay (fn := Tryd.f5) ?_) | (at_builtin; refine Own.appStop ?_) | (first | (go_at_call 22; go_in)))
      try with_reducible refine Own.Stay.mk ?_
      have hO := HO.out
      clear HO c9_2_0 c9_2_1 lt9_2 y9_2 c9_6_1 c9_6_5 lt9_6 y9_6
      have hL := hO.apart
      have hX := hO.apartX
      have HL := Lib.hid hL
      have HX := Lib.hid hX
      clear hL hX
      have hP9 := hO.pick [0] (by decide)
      have T9 := tmpCnt nd5 nd22 ((t : Int) + 1) _ _ _ hP9 htr9
      refine Calls.mono T9 ?_
      clear hP9 T9
      rintro e uw56 ⟨rfl, hQ⟩
      have hN : Own w0 uw56 [row (nd5) 176 nd22, row (nd24) 183 (full symZ (symL ((zSys n) ++ [syk (tn t) 27])) nd25), row (B47) 33 #[.int .u32 src, .int .u32 (n : Int)], row (B1_1) 38 nd23, row (nd28) 185 (full trfZ [.nilIface, .int .i32 0, .int .u32 src, .int .u32 (n : Int)] nd29), row (nd30) 33 (full refZ [.int .u32 src, .int .u32 (n : Int)] nd31), row (B1) 38 #[.pointer none, .pointer none, .slice none 0 0, .map none, .slice none 0 0, .slice none 0 0, .int .i32 0, .int .i32 0, .int .u32 0, .int .u32 0, .bool false, .bool false, .bool false, .bool false, .int .u8 0, .int .u8 6]] X1_46 := hQ.back HL.out HX.out [1, 2, 3, 4, 5, 6] (by decide) (by decide)
      clear hQ HL HX hO
      have hO := hN
      clear hN
      try simp only []
      obtain ⟨c9_2_0, c9_2_1, lt9_2, y9_2, -⟩ := hO.k2 2 rfl
      have c9_6_1 : uw56.cell? ⟨B1, 1, none⟩ = some (.pointer none) := hO.cell 6 rfl (1) rfl
      have c9_6_5 : uw56.cell? ⟨B1, 5, none⟩ = some (.slice none 0 0) := hO.cell 6 rfl (5) rfl
      have lt9_6 : B1 < uw56.heap.size := hO.lt 6 rfl
      have y9_6 : ∀ o, uw56.frozen? ⟨B1, o, none⟩ = false := hO.free 6 rfl
      have HO := Lib.hid hO
      clear hO
      go_wp2_with (first | (with_reducible refine Own.stay (fn := Tryd.f5) ?_) | (at_builtin; refine Own.appStop ?_) | (first | (go_at_call 22; go_in)))
      try with_reducible refine Own.Stay.mk ?_
      have hO := HO.out
      clear HO c9_2_0 c9_2_1 lt9_2 y9_2 c9_6_1 c9_6_5 lt9_6 y9_6
      have hN : Own w0 uw56 [row (nd5) 176 nd22, row (B1_1) 38 nd23, row (nd28) 185 (full trfZ [.nilIface, .int .i32 0, .int .u32 src, .int .u32 (n : Int)] nd29), row (nd30) 33 (full refZ [.int .u32 src, .int .u32 (n : Int)] nd31), row (B1) 38 #[.pointer none, .pointer none, .slice none 0 0, .map none, .slice none 0 0, .slice none 0 0, .int .i32 0, .int .i32 0, .int .u32 0, .int .u32 0, .bool false, .bool false, .bool false, .bool false, .int .u8 0, .int .u8 6], row (B47) 33 #[.int .u32 src, .int .u32 (n : Int)]] X1_46 := hO.sub [0, 3, 4, 5, 6, 2] (by decide)
      clear hO
      have hO := hN
      clear hN
      have hXX : ∀ b o, X b o → X1_46 b o := by
        intro b o hx
        rw [HX1_46.out]
        exact Or.inl hx
      rw [HC9.out]
      exact tl48C nd5 nd22 B1_1 nd23 nd30 nd31 nd28 nd29 B1 B47 src n _ _ _ _ _ _ _ _ _ _ _ _ _ _ _ _ _ _ _ _ _ _ _ _ _ _ _ _ _ _ _ _ _ _ _ _ _ _ _ _ _ _ _ _ _ _ _ _ _ _ _ _ _ _ _ _ _ _ _ _ _ _ _ _ _ _ _ _ _ _ _ _ _ _ _ _ _ _ _ _ _ _ _ _ _ _ _ _ _ _ _ _ _ _ _ _ _ _ _ _ _ _ _ _ _ _ _ _ _ _ _ _ _ _ _ _ _ _ _ _ _ _ _ _ _ _ _ _ _ _ _ _ _ _ _ _ _ _ _ _ _ _ _ _ _ _ _ _ _ _ _ _ _ _ _ _ _ _ _ _ _ _ _ _ _ _ _ _ _ _ _ _ _ _ _ _ _ _ _ _ _ _ _ _ _ _ _ _ _ _ _ _ _ _ _ _ _ _ _ _ _ _ _ _ _ _ _ _ _ _ _ _ _ _ _ _ _ _ _ _ _ _ _ _ _ _ _ _ _ _ _ _ _ _ _ w0 _ X _ hO hXX pr38 pr39 pr41 pr42 pr44 pr45
  · skip
    by_cases hng : 0 < nmx.size
    · skip
      have hN : Own w0 uw50 [row (nd5) 176 nd22, row (nd24) 183 (full symZ (symL ((zSys n) ++ [syk nmx 27])) nd25), row (B47) 33 #[.int .u32 src, .int .u32 (n : Int)], row (B1_1) 38 nd23, row (nd28) 185 (full trfZ [.nilIface, .int .i32 0, .int .u32 src, .int .u32 (n : Int)] nd29), row (nd30) 33 (full refZ [.int .u32 src, .int .u32 (n : Int)] nd31), row (B1) 38 #[.pointer none, .pointer none, .slice none 0 0, .map none, .slice none 0 0, .slice none 0 0, .int .i32 0, .int .i32 0, .int .u32 0, .int .u32 0, .bool false, .bool false, .bool false, .bool false, .int .u8 0, .int .u8 6]] X1_46 := hO.conv (by rw [nmO_g hng])
      clear hO
      have hO := hN
      clear hN
      have htr9 : nd22[287]? = some (.int .i64 (t : Int)) := by
        have h := pr40
        rw [trO_g hng] at h
        exact h
      have hnz9 : nmx.toList ≠ [] := by
        rw [Lib.toList_data]
        intro e
        have h9 := congrArg List.length e
        rw [Array.length_toList] at h9
        exact absurd (by have h8 : nmx.data.size = 0 := h9; exact h8 : nmx.size = 0) (by omega)
      have hnn : (nmx.toList == ([] : List UInt8)) = false := by rw [beq_eq_false_iff_ne]; exact hnz9
      have hnm : (nmx.toList == (⟨#[]⟩ : ByteArray).toList) = false := by
        rw [Lib.toList_data (⟨#[]⟩ : ByteArray)]
        exact hnn
      obtain ⟨c9_2_0, c9_2_1, lt9_2, y9_2, -⟩ := hO.k2 2 rfl
      have c9_6_1 : uw50.cell? ⟨B1, 1, none⟩ = some (.pointer none) := hO.cell 6 rfl (1) rfl
      have c9_6_5 : uw50.cell? ⟨B1, 5, none⟩ = some (.slice none 0 0) := hO.cell 6 rfl (5) rfl
      have lt9_6 : B1 < uw50.heap.size := hO.lt 6 rfl
      have y9_6 : ∀ o, uw50.frozen? ⟨B1, o, none⟩ = false := hO.free 6 rfl
      have HO := Lib.hid hO
      clear hO
      go_wp2_with (first | (with_reducible refine Own.stay (fn := Tryd.f5) ?_) | (at_builtin; refine Own.appStop ?_) | (first | (go_at_call 22; go_in)))
      try with_reducible refine Own.Stay.mk ?_
      have hO := HO.out
      clear HO c9_2_0 c9_2_1 lt9_2 y9_2 c9_6_1 c9_6_5 lt9_6 y9_6
      have hL := hO.apart
      have hX := hO.apartX
      have HL := Lib.hid hL
      have HX := Lib.hid hX
      clear hL hX
      have hP9 := hO.pick [0] (by decide)
      have T9 := tsLen8 nd5 nd22 nd26 nd27 n _ _ _ hP9 pr34
      refine Calls.mono T9 ?_
      clear hP9 T9
      rintro e uw57 ⟨rfl, hQ⟩
      have hN : Own w0 uw57 [row (nd5) 176 nd22, row (nd24) 183 (full symZ (symL ((zSys n) ++ [syk nmx 27])) nd25), row (B47) 33 #[.int .u32 src, .int .u32 (n : Int)], row (B1_1) 38 nd23, row (nd28) 185 (full trfZ [.nilIface, .int .i32 0, .int .u32 src, .int .u32 (n : Int)] nd29), row (nd30) 33 (full refZ [.int .u32 src, .int .u32 (n : Int)] nd31), row (B1) 38 #[.pointer none, .pointer none, .slice none 0 0, .map none, .slice none 0 0, .slice none 0 0, .int .i32 0, .int .i32 0, .int .u32 0, .int .u32 0, .bool false, .bool false, .bool false, .bool false, .int .u8 0, .int .u8 6]] X1_46 := hQ.back HL.out HX.out [1, 2, 3, 4, 5, 6] (by decide) (by decide)
      clear hQ HL HX hO
      have hO := hN
      clear hN
      try simp only []
      obtain ⟨c9_2_0, c9_2_1, lt9_2, y9_2, -⟩ := hO.k2 2 rfl
      have c9_6_1 : uw57.cell? ⟨B1, 1, none⟩ = some (.pointer none) := hO.cell 6 rfl (1) rfl
      have c9_6_5 : uw57.cell? ⟨B1, 5, none⟩ = some (.slice none 0 0) := hO.cell 6 rfl (5) rfl
      have lt9_6 : B1 < uw57.heap.size := hO.lt 6 rfl
      have y9_6 : ∀ o, uw57.frozen? ⟨B1, o, none⟩ = false := hO.free 6 rfl
      have HO := Lib.hid hO
      clear hO
      go_wp2_with (first | (with_reducible refine Own.stay (fn := Tryd.f5) ?_) | (at_builtin; refine Own.appStop ?_) | (first | (go_at_call 22; go_in)))
      try with_reducible refine Own.Stay.mk ?_
      have hO := HO.out
      clear HO c9_2_0 c9_2_1 lt9_2 y9_2 c9_6_1 c9_6_5 lt9_6 y9_6
      have hL := hO.apart
      have hX := hO.apartX
      have HL := Lib.hid hL
      have HX := Lib.hid hX
      clear hL hX
      have hP9 := hO.pick [0, 1] (by decide)
      have h9_hn5 : n ≤ 100000 := (by first | assumption | omega | (simp; done) | (simp; omega))
      have T9 := symNm8 nd5 nd22 nd24 nd25 n nmx _ _ _ hP9 pr35 h9_hn5
      refine Calls.mono T9 ?_
      clear hP9 T9 h9_hn5
      rintro e uw58 ⟨rfl, hQ⟩
      have hN : Own w0 uw58 [row (nd5) 176 nd22, row (nd24) 183 (full symZ (symL ((zSys n) ++ [syk nmx 27])) nd25), row (B47) 33 #[.int .u32 src, .int .u32 (n : Int)], row (B1_1) 38 nd23, row (nd28) 185 (full trfZ [.nilIface, .int .i32 0, .int .u32 src, .int .u32 (n : Int)] nd29), row (nd30) 33 (full refZ [.int .u32 src, .int .u32 (n : Int)] nd31), row (B1) 38 #[.pointer none, .pointer none, .slice none 0 0, .map none, .slice none 0 0, .slice none 0 0, .int .i32 0, .int .i32 0, .int .u32 0, .int .u32 0, .bool false, .bool false, .bool false, .bool false, .int .u8 0, .int .u8 6]] X1_46 := hQ.back HL.out HX.out [2, 3, 4, 5, 6] (by decide) (by decide)
      clear hQ HL HX hO
      have hO := hN
      clear hN
      try simp only []
      obtain ⟨c9_2_0, c9_2_1, lt9_2, y9_2, -⟩ := hO.k2 2 rfl
      have c9_6_1 : uw58.cell? ⟨B1, 1, none⟩ = some (.pointer none) := hO.cell 6 rfl (1) rfl
      have c9_6_5 : uw58.cell? ⟨B1, 5, none⟩ = some (.slice none 0 0) := hO.cell 6 rfl (5) rfl
      have lt9_6 : B1 < uw58.heap.size := hO.lt 6 rfl
      have y9_6 : ∀ o, uw58.frozen? ⟨B1, o, none⟩ = false := hO.free 6 rfl
      have HO := Lib.hid hO
      clear hO
      go_wp2_with (first | (with_reducible refine Own.stay (fn := Tryd.f5) ?_) | (at_builtin; refine Own.appStop ?_) | (first | (go_at_call 22; go_in)))
      try with_reducible refine Own.Stay.mk ?_
      have hO := HO.out
      clear HO c9_2_0 c9_2_1 lt9_2 y9_2 c9_6_1 c9_6_5 lt9_6 y9_6
      have hL := hO.apart
      have hX := hO.apartX
      have HL := Lib.hid hL
      have HX := Lib.hid hX
      clear hL hX
      have hP9 := hO.pick [0] (by decide)
      have T9 := tmpCnt nd5 nd22 (t : Int) _ _ _ hP9 htr9
      refine Calls.mono T9 ?_
      clear hP9 T9
      rintro e uw59 ⟨rfl, hQ⟩
      have hN : Own w0 uw59 [row (nd5) 176 nd22, row (nd24) 183 (full symZ (symL ((zSys n) ++ [syk nmx 27])) nd25), row (B47) 33 #[.int .u32 src, .int .u32 (n : Int)], row (B1_1) 38 nd23, row (nd28) 185 (full trfZ [.nilIface, .int .i32 0, .int .u32 src, .int .u32 (n : Int)] nd29), row (nd30) 33 (full refZ [.int .u32 src, .int .u32 (n : Int)] nd31), row (B1) 38 #[.pointer none, .pointer none, .slice none 0 0, .map none, .slice none 0 0, .slice none 0 0, .int .i32 0, .int .i32 0, .int .u32 0, .int .u32 0, .bool false, .bool false, .bool false, .bool false, .int .u8 0, .int .u8 6]] X1_46 := hQ.back HL.out HX.out [1, 2, 3, 4, 5, 6] (by decide) (by decide)
      clear hQ HL HX hO
      have hO := hN
      clear hN
      try simp only []
      obtain ⟨c9_2_0, c9_2_1, lt9_2, y9_2, -⟩ := hO.k2 2 rfl
      have c9_6_1 : uw59.cell? ⟨B1, 1, none⟩ = some (.pointer none) := hO.cell 6 rfl (1) rfl
      have c9_6_5 : uw59.cell? ⟨B1, 5, none⟩ = some (.slice none 0 0) := hO.cell 6 rfl (5) rfl
      have lt9_6 : B1 < uw59.heap.size := hO.lt 6 rfl
      have y9_6 : ∀ o, uw59.frozen? ⟨B1, o, none⟩ = false := hO.free 6 rfl
      have HO := Lib.hid hO
      clear hO
      go_wp2_with (first | (with_reducible refine Own.stay (fn := Tryd.f5) ?_) | (at_builtin; refine Own.appStop ?_) | (first | (go_at_call 22; go_in)))
      try with_reducible refine Own.Stay.mk ?_
      have hO := HO.out
      clear HO c9_2_0 c9_2_1 lt9_2 y9_2 c9_6_1 c9_6_5 lt9_6 y9_6
      have hN : Own w0 uw59 [row (nd5) 176 nd22, row (B1_1) 38 nd23, row (nd28) 185 (full trfZ [.nilIface, .int .i32 0, .int .u32 src, .int .u32 (n : Int)] nd29), row (nd30) 33 (full refZ [.int .u32 src, .int .u32 (n : Int)] nd31), row (B1) 38 #[.pointer none, .pointer none, .slice none 0 0, .map none, .slice none 0 0, .slice none 0 0, .int .i32 0, .int .i32 0, .int .u32 0, .int .u32 0, .bool false, .bool false, .bool false, .bool false, .int .u8 0, .int .u8 6], row (B47) 33 #[.int .u32 src, .int .u32 (n : Int)]] X1_46 := hO.sub [0, 3, 4, 5, 6, 2] (by decide)
      clear hO
      have hO := hN
      clear hN
      have hXX : ∀ b o, X b o → X1_46 b o := by
        intro b o hx
        rw [HX1_46.out]
        exact Or.inl hx
      rw [HC9.out]
      exact tl48C nd5 nd22 B1_1 nd23 nd30 nd31 nd28 nd29 B1 B47 src n _ _ _ _ _ _ _ _ _ _ _ _ _ _ _ _ _ _ _ _ _ _ _ _ _ _ _ _ _ _ _ _ _ _ _ _ _ _ _ _ _ _ _ _ _ _ _ _ _ _ _ _ _ _ _ _ _ _ _ _ _ _ _ _ _ _ _ _ _ _ _ _ _ _ _ _ _ _ _ _ _ _ _ _ _ _ _ _ _ _ _ _ _ _ _ _ _ _ _ _ _ _ _ _ _ _ _ _ _ _ _ _ _ _ _ _ _ _ _ _ _ _ _ _ _ _ _ _ _ _ _ _ _ _ _ _ _ _ _ _ _ _ _ _ _ _ _ _ _ _ _ _ _ _ _ _ _ _ _ _ _ _ _ _ _ _ _ _ _ _ _ _ _ _ _ _ _ _ _ _ _ _ _ _ _ _ _ _ _ _ _ _ _ _ _ _ _ _ _ _ _ _ _ _ _ _ _ _ _ _ _ _ _ _ _ _ _ _ _ _ _ _ _ _ _ _ _ _ _ _ _ _ _ _ _ w0 _ X _ hO hXX pr38 pr39 pr41 pr42 pr44 pr45
    · skip
      obtain rfl := nil_of_size hng
      have hN : Own w0 uw50 [row (nd5) 176 nd22, row (nd24) 183 (full symZ (symL ((zSys n) ++ [syk (tn t) 27])) nd25), row (B47) 33 #[.int .u32 src, .int .u32 (n : Int)], row (B1_1) 38 nd23, row (nd28) 185 (full trfZ [.nilIface, .int .i32 0, .int .u32 src, .int .u32 (n : Int)] nd29), row (nd30) 33 (full refZ [.int .u32 src, .int .u32 (n : Int)] nd31), row (B1) 38 #[.pointer none, .pointer none, .slice none 0 0, .map none, .slice none 0 0, .slice none 0 0, .int .i32 0, .int .i32 0, .int .u32 0, .int .u32 0, .bool false, .bool false, .bool false, .bool false, .int .u8 0, .int .u8 6]] X1_46 := hO.conv (by rw [nmO_e])
      clear hO
      have hO := hN
      clear hN
      have htr9 : nd22[287]? = some (.int .i64 ((t : Int) + 1)) := by
        have h := pr40
        rw [trO_e] at h
        exact h
      have htn := tn_size t
      have htn9 : (2 : Int) ≤ ((tn t).size : Int) := by omega
      have htp : 0 < (tn t).size := by omega
      have htc := tn_at0 t htp
      obtain ⟨c9_2_0, c9_2_1, lt9_2, y9_2, -⟩ := hO.k2 2 rfl
      have c9_6_1 : uw50.cell? ⟨B1, 1, none⟩ = some (.pointer none) := hO.cell 6 rfl (1) rfl
      have c9_6_5 : uw50.cell? ⟨B1, 5, none⟩ = some (.slice none 0 0) := hO.cell 6 rfl (5) rfl
      have lt9_6 : B1 < uw50.heap.size := hO.lt 6 rfl
      have y9_6 : ∀ o, uw50.frozen? ⟨B1, o, none⟩ = false := hO.free 6 rfl
      have HO := Lib.hid hO
      clear hO
      go_wp2_with (first | (with_reducible refine Own.stay (fn := Tryd.f5) ?_) | (at_builtin; refine Own.appStop ?_) | (first | (go_at_call 22; go_in)))
      try with_reducible refine Own.Stay.mk ?_
      have hO := HO.out
      clear HO c9_2_0 c9_2_1 lt9_2 y9_2 c9_6_1 c9_6_5 lt9_6 y9_6
      have hL := hO.apart
      have hX := hO.apartX
      have HL := Lib.hid hL
      have HX := Lib.hid hX
      clear hL hX
      have hP9 := hO.pick [0] (by decide)
      have T9 := tsLen8 nd5 nd22 nd26 nd27 n _ _ _ hP9 pr34
      refine Calls.mono T9 ?_
      clear hP9 T9
      rintro e uw60 ⟨rfl, hQ⟩
      have hN : Own w0 uw60 [row (nd5) 176 nd22, row (nd24) 183 (full symZ (symL ((zSys n) ++ [syk (tn t) 27])) nd25), row (B47) 33 #[.int .u32 src, .int .u32 (n : Int)], row (B1_1) 38 nd23, row (nd28) 185 (full trfZ [.nilIface, .int .i32 0, .int .u32 src, .int .u32 (n : Int)] nd29), row (nd30) 33 (full refZ [.int .u32 src, .int .u32 (n : Int)] nd31), row (B1) 38 #[.pointer none, .pointer none, .slice none 0 0, .map none, .slice none 0 0, .slice none 0 0, .int .i32 0, .int .i32 0, .int .u32 0, .int .u32 0, .bool false, .bool false, .bool false, .bool false, .int .u8 0, .int .u8 6]] X1_46 := hQ.back HL.out HX.out [1, 2, 3, 4, 5, 6] (by decide) (by decide)
      clear hQ HL HX hO
      have hO := hN
      clear hN
      try simp only []
      obtain ⟨c9_2_0, c9_2_1, lt9_2, y9_2, -⟩ := hO.k2 2 rfl
      have c9_6_1 : uw60.cell? ⟨B1, 1, none⟩ = some (.pointer none) := hO.cell 6 rfl (1) rfl
      have c9_6_5 : uw60.cell? ⟨B1, 5, none⟩ = some (.slice none 0 0) := hO.cell 6 rfl (5) rfl
      have lt9_6 : B1 < uw60.heap.size := hO.lt 6 rfl
      have y9_6 : ∀ o, uw60.frozen? ⟨B1, o, none⟩ = false := hO.free 6 rfl
      have HO := Lib.hid hO
      clear hO
      go_wp2_with (first | (with_reducible refine Own.stay (fn := Tryd.f5) ?_) | (at_builtin; refine Own.appStop ?_) | (first | (go_at_call 22; go_in)))
      try with_reducible refine Own.Stay.mk ?_
      have hO := HO.out
      clear HO c9_2_0 c9_2_1 lt9_2 y9_2 c9_6_1 c9_6_5 lt9_6 y9_6
      have hL := hO.apart
      have hX := hO.apartX
      have HL := Lib.hid hL
      have HX := Lib.hid hX
      clear hL hX
      have hP9 := hO.pick [0, 1] (by decide)
      have h9_hn5 : n ≤ 100000 := (by first | assumption | omega | (simp; done) | (simp; omega))
      have T9 := symNm8 nd5 nd22 nd24 nd25 n (tn t) _ _ _ hP9 pr35 h9_hn5
      refine Calls.mono T9 ?_
      clear hP9 T9 h9_hn5
      rintro e uw61 ⟨rfl, hQ⟩
      have hN : Own w0 uw61 [row (nd5) 176 nd22, row (nd24) 183 (full symZ (symL ((zSys n) ++ [syk (tn t) 27])) nd25), row (B47) 33 #[.int .u32 src, .int .u32 (n : Int)], row (B1_1) 38 nd23, row (nd28) 185 (full trfZ [.nilIface, .int .i32 0, .int .u32 src, .int .u32 (n : Int)] nd29), row (nd30) 33 (full refZ [.int .u32 src, .int .u32 (n : Int)] nd31), row (B1) 38 #[.pointer none, .pointer none, .slice none 0 0, .map none, .slice none 0 0, .slice none 0 0, .int .i32 0, .int .i32 0, .int .u32 0, .int .u32 0, .bool false, .bool false, .bool false, .bool false, .int .u8 0, .int .u8 6]] X1_46 := hQ.back HL.out HX.out [2, 3, 4, 5, 6] (by decide) (by decide)
      clear hQ HL HX hO
      have hO := hN
      clear hN
      try simp only []
      obtain ⟨c9_2_0, c9_2_1, lt9_2, y9_2, -⟩ := hO.k2 2 rfl
      have c9_6_1 : uw61.cell? ⟨B1, 1, none⟩ = some (.pointer none) := hO.cell 6 rfl (1) rfl
      have c9_6_5 : uw61.cell? ⟨B1, 5, none⟩ = some (.slice none 0 0) := hO.cell 6 rfl (5) rfl
      have lt9_6 : B1 < uw61.heap.size := hO.lt 6 rfl
      have y9_6 : ∀ o, uw61.frozen? ⟨B1, o, none⟩ = false := hO.free 6 rfl
      have HO := Lib.hid hO
      clear hO
      go_wp2_with (first | (with_reducible refine Own.stay (fn := Tryd.f5) ?_) | (at_builtin; refine Own.appStop ?_) | (first | (go_at_call 22; go_in)))
      try with_reducible refine Own.Stay.mk ?_
      have hO := HO.out
      clear HO c9_2_0 c9_2_1 lt9_2 y9_2 c9_6_1 c9_6_5 lt9_6 y9_6
      have hL := hO.apart
      have hX := hO.apartX
      have HL := Lib.hid hL
      have HX := Lib.hid hX
      clear hL hX
      have hP9 := hO.pick [0] (by decide)
      have T9 := tmpCnt nd5 nd22 ((t : Int) + 1) _ _ _ hP9 htr9
      refine Calls.mono T9 ?_
      clear hP9 T9
      rintro e uw62 ⟨rfl, hQ⟩
      have hN : Own w0 uw62 [row (nd5) 176 nd22, row (nd24) 183 (full symZ (symL ((zSys n) ++ [syk (tn t) 27])) nd25), row (B47) 33 #[.int .u32 src, .int .u32 (n : Int)], row (B1_1) 38 nd23, row (nd28) 185 (full trfZ [.nilIface, .int .i32 0, .int .u32 src, .int .u32 (n : Int)] nd29), row (nd30) 33 (full refZ [.int .u32 src, .int .u32 (n : Int)] nd31), row (B1) 38 #[.pointer none, .pointer none, .slice none 0 0, .map none, .slice none 0 0, .slice none 0 0, .int .i32 0, .int .i32 0, .int .u32 0, .int .u32 0, .bool false, .bool false, .bool false, .bool false, .int .u8 0, .int .u8 6]] X1_46 := hQ.back HL.out HX.out [1, 2, 3, 4, 5, 6] (by decide) (by decide)
      clear hQ HL HX hO
      have hO := hN
      clear hN
      try simp only []
      obtain ⟨c9_2_0, c9_2_1, lt9_2, y9_2, -⟩ := hO.k2 2 rfl
      have c9_6_1 : uw62.cell? ⟨B1, 1, none⟩ = some (.pointer none) := hO.cell 6 rfl (1) rfl
      have c9_6_5 : uw62.cell? ⟨B1, 5, none⟩ = some (.slice none 0 0) := hO.cell 6 rfl (5) rfl
      have lt9_6 : B1 < uw62.heap.size := hO.lt 6 rfl
      have y9_6 : ∀ o, uw62.frozen? ⟨B1, o, none⟩ = false := hO.free 6 rfl
      have HO := Lib.hid hO
      clear hO
      go_wp2_with (first | (with_reducible refine Own.stay (fn := Tryd.f5) ?_) | (at_builtin; refine Own.appStop ?_) | (first | (go_at_call 22; go_in)))
      try with_reducible refine Own.Stay.mk ?_
      have hO := HO.out
      clear HO c9_2_0 c9_2_1 lt9_2 y9_2 c9_6_1 c9_6_5 lt9_6 y9_6
      have hN : Own w0 uw62 [row (nd5) 176 nd22, row (B1_1) 38 nd23, row (nd28) 185 (full trfZ [.nilIface, .int .i32 0, .int .u32 src, .int .u32 (n : Int)] nd29), row (nd30) 33 (full refZ [.int .u32 src, .int .u32 (n : Int)] nd31), row (B1) 38 #[.pointer none, .pointer none, .slice none 0 0, .map none, .slice none 0 0, .slice none 0 0, .int .i32 0, .int .i32 0, .int .u32 0, .int .u32 0, .bool false, .bool false, .bool false, .bool false, .int .u8 0, .int .u8 6], row (B47) 33 #[.int .u32 src, .int .u32 (n : Int)]] X1_46 := hO.sub [0, 3, 4, 5, 6, 2] (by decide)
      clear hO
      have hO := hN
      clear hN
      have hXX : ∀ b o, X b o → X1_46 b o := by
        intro b o hx
        rw [HX1_46.out]
        exact Or.inl hx
      rw [HC9.out]
      exact tl48C nd5 nd22 B1_1 nd23 nd30 nd31 nd28 nd29 B1 B47 src n _ _ _ _ _ _ _ _ _ _ _ _ _ _ _ _ _ _ _ _ _ _ _ _ _ _ _ _ _ _ _ _ _ _ _ _ _ _ _ _ _ _ _ _ _ _ _ _ _ _ _ _ _ _ _ _ _ _ _ _ _ _ _ _ _ _ _ _ _ _ _ _ _ _ _ _ _ _ _ _ _ _ _ _ _ _ _ _ _ _ _ _ _ _ _ _ _ _ _ _ _ _ _ _ _ _ _ _ _ _ _ _ _ _ _ _ _ _ _ _ _ _ _ _ _ _ _ _ _ _ _ _ _ _ _ _ _ _ _ _ _ _ _ _ _ _ _ _ _ _ _ _ _ _ _ _ _ _ _ _ _ _ _ _ _ _ _ _ _ _ _ _ _ _ _ _ _ _ _ _ _ _ _ _ _ _ _ _ _ _ _ _ _ _ _ _ _ _ _ _ _ _ _ _ _ _ _ _ _ _ _ _ _ _ _ _ _ _ _ _ _ _ _ _ _ _ _ _ _ _ _ _ _ _ _ w0 _ X _ hO hXX pr38 pr39 pr41 pr42 pr44 pr45
end Go.Proofs.YtkmojepgbbdeiaaDoor.Use
