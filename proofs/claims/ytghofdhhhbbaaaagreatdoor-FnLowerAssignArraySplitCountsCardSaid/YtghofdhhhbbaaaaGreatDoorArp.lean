/- The pattern [a1 .. am, {...r}, b1 .. bt], made. No condition. -/
import Derived.Test.YtghofdhhhbbaaaaGreatDoorMak
import Derived.Test.YtghofdhhhbbaaaaGreatDoorIts
import Derived.Test.YtghofdhhhbbaaaaGreatDoorIfm
import Derived.Test.YtghofdhhhbbaaaaGreatDoorSla
import Derived.Test.YtghofdhhhbbaaaaGreatDoorLoop
import Derived.Test.YtghofdhhhbbaaaaGreatDoorMini
import Derived.Test.YtghofdhhhbbaaaaGreatDoorAppL
import Derived.Test.YtghofdhhhbbaaaaGreatDoorApp
import Derived.Test.YtghofdhhhbbaaaaGreatDoorOwnK
import Derived.Test.YtghofdhhhbbaaaaGreatDoorOwn
import Derived.Test.YtghofdhhhbbaaaaGreatDoorDeepCells
import Derived.Test.YtghofdhhhbbaaaaGreatDoorRows
import Derived.Test.YtghofdhhhbbaaaaGreatDoorLive
namespace Go.Proofs.YtghofdhhhbbaaaaGreatDoor.Use
open Go.ChangeShapes Go.WideShapes Go.ChangeAt Go.RowKit Go.Sort Own
set_option linter.unusedVariables false
def arrPatPost (mm tt : Nat) (w0 : World) (X : Nat → Obj → Prop) (e : Ending) (w' : World) : Prop :=
  ∃ ib : Nat, ∃ ci : Nat, ∃ IL : List Value, ∃ ob : Nat, ∃ pr : Nat, ∃ cp : Nat, ∃ vb : Nat, ∃ ab : Nat, e = .returned (.agg #[.iface 205 (.pointer (some ⟨ab, 0, none⟩)), .int .i32 0]) ∧ ItP IL mm ob (mm + 1 + tt) ∧ Own w0 w' [row (ab) 207 #[.slice (some ⟨ib, 0, none⟩) (mm + 1 + tt) (mm + 1 + tt + ci), .int .i32 0, .int .i32 0, .bool false, .bool false], row (ib) 29 (full exZ IL ci), row (ob) 204 #[.slice (some ⟨pr, 0, none⟩) 1 (1 + cp), .int .i32 0, .int .i32 0, .bool false, .bool false], row (pr) 52 (full prZ [.pointer none, .nilIface, .int .i32 0, .iface 56 (.pointer (some ⟨vb, 0, none⟩)), .int .i32 0, .nilIface, .int .i32 0, .slice none 0 0, .int .i32 0, .int .i32 0, .int .u8 5, .int .u8 0] cp)] X
set_option maxRecDepth 100000 in
set_option maxHeartbeats 2000000 in
theorem arrPat (mm tt : Nat) (w0 w : World) (X : Nat → Obj → Prop) (hO : Own w0 w [] X) (hm4 : mm ≤ 4096) (ht4 : tt ≤ 4096) :
    Calls Tryz.prog 6 #[.int .i64 (mm : Int), .int .i64 (tt : Int)] w (arrPatPost mm tt w0 X) := by
  go_enter Tryz.func6, Tryz.ntmps6
  have hmk := makeEx3 mm tt (by omega)
  have hm8 : (mm : Int) ≤ 4096 := by omega
  have ht8 : (tt : Int) ≤ 4096 := by omega
  have hm7 : (0 : Int) ≤ (mm : Int) := by omega
  have ht7 : (0 : Int) ≤ (tt : Int) := by omega
  go_wp2_with (first | (with_reducible refine Own.stay (fn := Tryz.f6) ?_) | (at_builtin; refine Own.appStop ?_) | fail)
  try with_reducible refine Own.Stay.mk ?_
  generalize hW : World.alloc _ _ = W2
  have hN : Own w0 W2 [row (w.heap.size + 1) 29 (full exZ [] (mm + tt + 1)), row (w.heap.size) 29 #[.nilIface, .int .i32 0]] X := by
    rw [← hW]
    exact ((hO).alloc' _ (w.heap.size) (by simp)).alloc' _ (w.heap.size + 1) (by simp)
  clear hW hO
  generalize w.heap.size + 1 = B1_1 at hN ⊢
  generalize w.heap.size = B1 at hN ⊢
  have hO := hN
  clear hN
  go_loopg [5, 6] mm (fun gf s5 s6 wx => ∃ (i ib ci : Nat) (IL : List Value), i + gf = mm ∧ s6 = .int .i64 (i : Int) ∧ s5 = .slice (some ⟨ib, 0, none⟩) i (i + ci) ∧ IL.length = i * 2 ∧ ItA IL 0 i ∧ Own w0 wx [row (B1) 29 #[.nilIface, .int .i32 0], row (ib) 29 (full exZ IL ci)] X)
  case atStart => exact ⟨0, B1_1, mm + tt + 1, [], by omega, rfl, by rw [Nat.zero_add], rfl, ItA.nil _ _, hO.sub [1, 0] (by decide)⟩
  obtain ⟨i, ib, ci, IL, him, rfl, rfl, hlen, hI, hO⟩ := hrel
  by_cases hlt : i < mm
  · skip
    obtain ⟨gq, rfl⟩ : ∃ gq, gk = gq + 1 := ⟨gk - 1, by omega⟩
    have hlt9 : (i : Int) < (mm : Int) := by omega
    have hi7 : (0 : Int) ≤ (i : Int) := by omega
    have hm8 : (mm : Int) ≤ 4096 := by omega
    have hI9 := Lib.hid hI
    clear hI
    obtain ⟨c9_0_0, c9_0_1, lt9_0, y9_0, -⟩ := hO.k2 0 rfl
    have HO := Lib.hid hO
    clear hO
    go_wp2_with (first | (with_reducible refine Own.stay (fn := Tryz.f6) ?_) | (at_builtin; refine Own.appStop ?_) | fail)
    try with_reducible refine Own.Stay.mk ?_
    have hO := HO.out
    clear HO c9_0_0 c9_0_1 lt9_0 y9_0
    have hL := hO.apart
    have hX := hO.apartX
    have HL := Lib.hid hL
    have HX := Lib.hid hX
    clear hL hX
    have hP9 := hO.pick [] (by decide)
    have T9 := newId  _ _ _ hP9 
    refine Calls.mono T9 ?_
    clear hP9 T9
    rintro e uw3 ⟨nd4, rfl, hQ⟩
    have hN : Own w0 uw3 [row (B1) 29 #[.nilIface, .int .i32 0], row (ib) 29 (full exZ IL ci)] X := hQ.back HL.out HX.out [0, 1] (by decide) (by decide)
    clear hQ HL HX hO
    have hO := hN
    clear hN
    obtain ⟨c9_0_0, c9_0_1, lt9_0, y9_0, -⟩ := hO.k2 0 rfl
    have HO := Lib.hid hO
    clear hO
    go_wp2_with (first | (with_reducible refine Own.stay (fn := Tryz.f6) ?_) | (at_builtin; refine Own.appStop ?_) | fail)
    try with_reducible refine Own.Stay.mk ?_
    have hO := HO.out
    clear HO c9_0_0 c9_0_1 lt9_0 y9_0
    generalize hW : World.alloc _ _ = W6
    have hN : Own w0 W6 [row (uw3.heap.size) 29 #[.iface 56 (.pointer (some ⟨nd4, 0, none⟩)), .int .i32 0], row (B1) 29 #[.nilIface, .int .i32 0], row (ib) 29 (full exZ IL ci)] X := by
      rw [← hW]
      exact (hO).alloc' _ (uw3.heap.size) (by simp)
    clear hW hO
    generalize uw3.heap.size = B5 at hN ⊢
    have hO := hN
    clear hN
    refine Own.AppStop.mk ?_
    obtain ⟨i9, hi9, z1, z2, z3⟩ := info_parts infoEx
    have hL := hO.apart
    have hX := hO.apartX
    have HL := Lib.hid hL
    have HX := Lib.hid hX
    clear hL hX
    have hP9 := hO.pick [2, 0] (by decide)
    refine Own.wpList_append_full rfl (.tmp 19) (.tmp 21) 45 rfl 29 i9 (.agg exZ) 2 24 Tryz.underlying45 hi9 z1 z2 z3 rfl (by decide) hP9 rfl rfl (by first | rfl | assumption | (simp; done) | (simp; omega)) (by first | rfl | assumption | omega) rfl (oneAll rfl) (by first | decide | omega | (unfold maxLen; omega)) (by first | decide | omega | (unfold maxLen; omega)) ?_
    intro nd7 nc8 u9 hQ
    clear hP9
    have hN : Own w0 u9 [row (nd7) 29 (full exZ (IL ++ [.iface 56 (.pointer (some ⟨nd4, 0, none⟩)), .int .i32 0]) nc8), row (B5) 29 #[.iface 56 (.pointer (some ⟨nd4, 0, none⟩)), .int .i32 0], row (B1) 29 #[.nilIface, .int .i32 0]] X := hQ.back HL.out HX.out [1] (by decide) (by decide)
    clear hQ HL HX hO
    have hO := hN
    clear hN
    obtain ⟨c9_1_0, c9_1_1, lt9_1, y9_1, -⟩ := hO.k2 1 rfl
    obtain ⟨c9_2_0, c9_2_1, lt9_2, y9_2, -⟩ := hO.k2 2 rfl
    have HO := Lib.hid hO
    clear hO
    go_wp2_with (first | (with_reducible refine Own.stay (fn := Tryz.f6) ?_) | (at_builtin; refine Own.appStop ?_) | fail)
    try with_reducible refine Own.Stay.mk ?_
    have hO := HO.out
    clear HO c9_1_0 c9_1_1 lt9_1 y9_1 c9_2_0 c9_2_1 lt9_2 y9_2
    go_roundg gq
    case measure => omega
    case rel => exact ⟨i + 1, nd7, nc8, _, by omega, by first | rfl | simp, by first | rfl | simp, len_snoc hlen, hI9.out.snoc hlen, hO.sub [2, 0] (by decide)⟩
  obtain rfl : gk = 0 := by omega
  obtain rfl : mm = i := by omega
  have hlt9 : ¬ (mm : Int) < (mm : Int) := by omega
  have hI9 := Lib.hid hI
  clear hI
  obtain ⟨c9_0_0, c9_0_1, lt9_0, y9_0, -⟩ := hO.k2 0 rfl
  have HO := Lib.hid hO
  clear hO
  have hmp := makePr1
  go_wp2_with (first | (with_reducible refine Own.stay (fn := Tryz.f6) ?_) | (at_builtin; refine Own.appStop ?_) | fail)
  try with_reducible refine Own.Stay.mk ?_
  have hO := HO.out
  clear HO c9_0_0 c9_0_1 lt9_0 y9_0
  generalize hW : World.alloc _ _ = W11
  have hN : Own w0 W11 [row (wr.heap.size) 52 (full prZ [] 1), row (B1) 29 #[.nilIface, .int .i32 0], row (ib) 29 (full exZ IL ci)] X := by
    rw [← hW]
    exact (hO).alloc' _ (wr.heap.size) (by simp)
  clear hW hO
  generalize wr.heap.size = B10 at hN ⊢
  have hO := hN
  clear hN
  have hL := hO.apart
  have hX := hO.apartX
  have HL := Lib.hid hL
  have HX := Lib.hid hX
  clear hL hX
  have hP9 := hO.pick [] (by decide)
  have T9 := newId  _ _ _ hP9 
  refine Calls.mono T9 ?_
  clear hP9 T9
  rintro e uw12 ⟨nd13, rfl, hQ⟩
  have hN : Own w0 uw12 [row (B10) 52 (full prZ [] 1), row (B1) 29 #[.nilIface, .int .i32 0], row (ib) 29 (full exZ IL ci)] X := hQ.back HL.out HX.out [0, 1, 2] (by decide) (by decide)
  clear hQ HL HX hO
  have hO := hN
  clear hN
  obtain ⟨c9_1_0, c9_1_1, lt9_1, y9_1, -⟩ := hO.k2 1 rfl
  have HO := Lib.hid hO
  clear hO
  go_wp2_with (first | (with_reducible refine Own.stay (fn := Tryz.f6) ?_) | (at_builtin; refine Own.appStop ?_) | fail)
  try with_reducible refine Own.Stay.mk ?_
  have hO := HO.out
  clear HO c9_1_0 c9_1_1 lt9_1 y9_1
  have hL := hO.apart
  have hX := hO.apartX
  have HL := Lib.hid hL
  have HX := Lib.hid hX
  clear hL hX
  have hP9 := hO.pick [] (by decide)
  have T9 := newRp nd13 _ _ _ hP9 
  refine Calls.mono T9 ?_
  clear hP9 T9
  rintro e uw14 ⟨rfl, hQ⟩
  have hN : Own w0 uw14 [row (B10) 52 (full prZ [] 1), row (B1) 29 #[.nilIface, .int .i32 0], row (ib) 29 (full exZ IL ci)] X := hQ.back HL.out HX.out [0, 1, 2] (by decide) (by decide)
  clear hQ HL HX hO
  have hO := hN
  clear hN
  obtain ⟨c9_1_0, c9_1_1, lt9_1, y9_1, -⟩ := hO.k2 1 rfl
  have HO := Lib.hid hO
  clear hO
  go_wp2_with (first | (with_reducible refine Own.stay (fn := Tryz.f6) ?_) | (at_builtin; refine Own.appStop ?_) | fail)
  try with_reducible refine Own.Stay.mk ?_
  have hO := HO.out
  clear HO c9_1_0 c9_1_1 lt9_1 y9_1
  generalize hW : World.alloc _ _ = W16
  have hN : Own w0 W16 [row (uw14.heap.size) 52 #[.pointer none, .nilIface, .int .i32 0, .iface 56 (.pointer (some ⟨nd13, 0, none⟩)), .int .i32 0, .nilIface, .int .i32 0, .slice none 0 0, .int .i32 0, .int .i32 0, .int .u8 5, .int .u8 0], row (B10) 52 (full prZ [] 1), row (B1) 29 #[.nilIface, .int .i32 0], row (ib) 29 (full exZ IL ci)] X := by
    rw [← hW]
    exact (hO).alloc' _ (uw14.heap.size) (by simp)
  clear hW hO
  generalize uw14.heap.size = B15 at hN ⊢
  have hO := hN
  clear hN
  refine Own.AppStop.mk ?_
  obtain ⟨i9, hi9, z1, z2, z3⟩ := info_parts infoPr
  have hL := hO.apart
  have hX := hO.apartX
  have HL := Lib.hid hL
  have HX := Lib.hid hX
  clear hL hX
  have hP9 := hO.pick [1, 0] (by decide)
  refine Own.wpList_append_full rfl (.tmp 24) (.tmp 27) 46 rfl 52 i9 (.agg prZ) 12 120 Tryz.underlying46 hi9 z1 z2 z3 rfl (by decide) hP9 rfl rfl (by first | rfl | assumption | (simp; done) | (simp; omega)) (by first | rfl | assumption | omega) rfl (oneAll rfl) (by first | decide | omega | (unfold maxLen; omega)) (by first | decide | omega | (unfold maxLen; omega)) ?_
  intro nd17 nc18 u19 hQ
  clear hP9
  have hN : Own w0 u19 [row (nd17) 52 (full prZ [.pointer none, .nilIface, .int .i32 0, .iface 56 (.pointer (some ⟨nd13, 0, none⟩)), .int .i32 0, .nilIface, .int .i32 0, .slice none 0 0, .int .i32 0, .int .i32 0, .int .u8 5, .int .u8 0] nc18), row (B15) 52 #[.pointer none, .nilIface, .int .i32 0, .iface 56 (.pointer (some ⟨nd13, 0, none⟩)), .int .i32 0, .nilIface, .int .i32 0, .slice none 0 0, .int .i32 0, .int .i32 0, .int .u8 5, .int .u8 0], row (B1) 29 #[.nilIface, .int .i32 0], row (ib) 29 (full exZ IL ci)] X := hQ.back HL.out HX.out [2, 3] (by decide) (by decide)
  clear hQ HL HX hO
  have hO := hN
  clear hN
  obtain ⟨c9_2_0, c9_2_1, lt9_2, y9_2, -⟩ := hO.k2 2 rfl
  have HO := Lib.hid hO
  clear hO
  go_wp2_with (first | (with_reducible refine Own.stay (fn := Tryz.f6) ?_) | (at_builtin; refine Own.appStop ?_) | fail)
  try with_reducible refine Own.Stay.mk ?_
  have hO := HO.out
  clear HO c9_2_0 c9_2_1 lt9_2 y9_2
  have hL := hO.apart
  have hX := hO.apartX
  have HL := Lib.hid hL
  have HX := Lib.hid hX
  clear hL hX
  have hP9 := hO.pick [] (by decide)
  have T9 := newOb nd17 1 (1 + nc18) _ _ _ hP9 
  refine Calls.mono T9 ?_
  clear hP9 T9
  rintro e uw20 ⟨nd21, rfl, hQ⟩
  have hN : Own w0 uw20 [row (nd21) 204 #[.slice (some ⟨nd17, 0, none⟩) 1 (1 + nc18), .int .i32 0, .int .i32 0, .bool false, .bool false], row (nd17) 52 (full prZ [.pointer none, .nilIface, .int .i32 0, .iface 56 (.pointer (some ⟨nd13, 0, none⟩)), .int .i32 0, .nilIface, .int .i32 0, .slice none 0 0, .int .i32 0, .int .i32 0, .int .u8 5, .int .u8 0] nc18), row (B15) 52 #[.pointer none, .nilIface, .int .i32 0, .iface 56 (.pointer (some ⟨nd13, 0, none⟩)), .int .i32 0, .nilIface, .int .i32 0, .slice none 0 0, .int .i32 0, .int .i32 0, .int .u8 5, .int .u8 0], row (B1) 29 #[.nilIface, .int .i32 0], row (ib) 29 (full exZ IL ci)] X := hQ.back HL.out HX.out [0, 1, 2, 3] (by decide) (by decide)
  clear hQ HL HX hO
  have hO := hN
  clear hN
  obtain ⟨c9_0_0, c9_0_1, c9_0_2, c9_0_3, c9_0_4, lt9_0, y9_0, -⟩ := hO.k5 0 rfl
  obtain ⟨c9_3_0, c9_3_1, lt9_3, y9_3, -⟩ := hO.k2 3 rfl
  have HO := Lib.hid hO
  clear hO
  go_wp2_with (first | (with_reducible refine Own.stay (fn := Tryz.f6) ?_) | (at_builtin; refine Own.appStop ?_) | fail)
  try with_reducible refine Own.Stay.mk ?_
  have hO := HO.out
  clear HO c9_0_0 c9_0_1 c9_0_2 c9_0_3 c9_0_4 lt9_0 y9_0 c9_3_0 c9_3_1 lt9_3 y9_3
  generalize hW : World.alloc _ _ = W23
  have hN : Own w0 W23 [row (uw20.heap.size) 29 #[.iface 202 (.pointer (some ⟨nd21, 0, none⟩)), .int .i32 0], row (nd21) 204 #[.slice (some ⟨nd17, 0, none⟩) 1 (1 + nc18), .int .i32 0, .int .i32 0, .bool false, .bool false], row (nd17) 52 (full prZ [.pointer none, .nilIface, .int .i32 0, .iface 56 (.pointer (some ⟨nd13, 0, none⟩)), .int .i32 0, .nilIface, .int .i32 0, .slice none 0 0, .int .i32 0, .int .i32 0, .int .u8 5, .int .u8 0] nc18), row (B15) 52 #[.pointer none, .nilIface, .int .i32 0, .iface 56 (.pointer (some ⟨nd13, 0, none⟩)), .int .i32 0, .nilIface, .int .i32 0, .slice none 0 0, .int .i32 0, .int .i32 0, .int .u8 5, .int .u8 0], row (B1) 29 #[.nilIface, .int .i32 0], row (ib) 29 (full exZ IL ci)] X := by
    rw [← hW]
    exact (hO).alloc' _ (uw20.heap.size) (by simp)
  clear hW hO
  generalize uw20.heap.size = B22 at hN ⊢
  have hO := hN
  clear hN
  refine Own.AppStop.mk ?_
  obtain ⟨i9, hi9, z1, z2, z3⟩ := info_parts infoEx
  have hL := hO.apart
  have hX := hO.apartX
  have HL := Lib.hid hL
  have HX := Lib.hid hX
  clear hL hX
  have hP9 := hO.pick [5, 0] (by decide)
  refine Own.wpList_append_full rfl (.tmp 29) (.tmp 32) 45 rfl 29 i9 (.agg exZ) 2 24 Tryz.underlying45 hi9 z1 z2 z3 rfl (by decide) hP9 rfl rfl (by first | rfl | assumption | (simp; done) | (simp; omega)) (by first | rfl | assumption | omega) rfl (oneAll rfl) (by first | decide | omega | (unfold maxLen; omega)) (by first | decide | omega | (unfold maxLen; omega)) ?_
  intro nd24 nc25 u26 hQ
  clear hP9
  have hN : Own w0 u26 [row (nd24) 29 (full exZ (IL ++ [.iface 202 (.pointer (some ⟨nd21, 0, none⟩)), .int .i32 0]) nc25), row (B22) 29 #[.iface 202 (.pointer (some ⟨nd21, 0, none⟩)), .int .i32 0], row (nd21) 204 #[.slice (some ⟨nd17, 0, none⟩) 1 (1 + nc18), .int .i32 0, .int .i32 0, .bool false, .bool false], row (nd17) 52 (full prZ [.pointer none, .nilIface, .int .i32 0, .iface 56 (.pointer (some ⟨nd13, 0, none⟩)), .int .i32 0, .nilIface, .int .i32 0, .slice none 0 0, .int .i32 0, .int .i32 0, .int .u8 5, .int .u8 0] nc18), row (B15) 52 #[.pointer none, .nilIface, .int .i32 0, .iface 56 (.pointer (some ⟨nd13, 0, none⟩)), .int .i32 0, .nilIface, .int .i32 0, .slice none 0 0, .int .i32 0, .int .i32 0, .int .u8 5, .int .u8 0], row (B1) 29 #[.nilIface, .int .i32 0]] X := hQ.back HL.out HX.out [1, 2, 3, 4] (by decide) (by decide)
  clear hQ HL HX hO
  have hO := hN
  clear hN
  obtain ⟨c9_1_0, c9_1_1, lt9_1, y9_1, -⟩ := hO.k2 1 rfl
  obtain ⟨c9_2_0, c9_2_1, c9_2_2, c9_2_3, c9_2_4, lt9_2, y9_2, -⟩ := hO.k5 2 rfl
  obtain ⟨c9_5_0, c9_5_1, lt9_5, y9_5, -⟩ := hO.k2 5 rfl
  have HO := Lib.hid hO
  clear hO
  go_wp2_with (first | (with_reducible refine Own.stay (fn := Tryz.f6) ?_) | (at_builtin; refine Own.appStop ?_) | fail)
  try with_reducible refine Own.Stay.mk ?_
  have hO := HO.out
  clear HO c9_1_0 c9_1_1 lt9_1 y9_1 c9_2_0 c9_2_1 c9_2_2 c9_2_3 c9_2_4 lt9_2 y9_2 c9_5_0 c9_5_1 lt9_5 y9_5
  go_loopg [5, 8] tt (fun gf s5 s8 wx => ∃ (i ib ci : Nat) (IL : List Value), i + gf = tt ∧ s8 = .int .i64 (i : Int) ∧ s5 = .slice (some ⟨ib, 0, none⟩) (mm + 1 + i) (mm + 1 + i + ci) ∧ ItP IL mm nd21 (mm + 1 + i) ∧ Own w0 wx [row (B1) 29 #[.nilIface, .int .i32 0], row (ib) 29 (full exZ IL ci), row (nd21) 204 #[.slice (some ⟨nd17, 0, none⟩) 1 (1 + nc18), .int .i32 0, .int .i32 0, .bool false, .bool false], row (nd17) 52 (full prZ [.pointer none, .nilIface, .int .i32 0, .iface 56 (.pointer (some ⟨nd13, 0, none⟩)), .int .i32 0, .nilIface, .int .i32 0, .slice none 0 0, .int .i32 0, .int .i32 0, .int .u8 5, .int .u8 0] nc18)] X)
  case atStart => exact ⟨0, nd24, nc25, _, by omega, rfl, rfl, ItP.mk0 hlen hI9.out, hO.sub [5, 0, 2, 3] (by decide)⟩
  clear hI9 hlen
  obtain ⟨i, ib, ci, IL, him, rfl, rfl, hI, hO⟩ := hrel
  by_cases hlt : i < tt
  · skip
    obtain ⟨gq, rfl⟩ : ∃ gq, gk = gq + 1 := ⟨gk - 1, by omega⟩
    have hlt9 : (i : Int) < (tt : Int) := by omega
    have hi7 : (0 : Int) ≤ (i : Int) := by omega
    have ht8 : (tt : Int) ≤ 4096 := by omega
    have hlen : IL.length = (mm + 1 + i) * 2 := hI.len
    have hI9 := Lib.hid hI
    clear hI
    obtain ⟨c9_0_0, c9_0_1, lt9_0, y9_0, -⟩ := hO.k2 0 rfl
    obtain ⟨c9_2_0, c9_2_1, c9_2_2, c9_2_3, c9_2_4, lt9_2, y9_2, -⟩ := hO.k5 2 rfl
    have HO := Lib.hid hO
    clear hO
    go_wp2_with (first | (with_reducible refine Own.stay (fn := Tryz.f6) ?_) | (at_builtin; refine Own.appStop ?_) | fail)
    try with_reducible refine Own.Stay.mk ?_
    have hO := HO.out
    clear HO c9_0_0 c9_0_1 lt9_0 y9_0 c9_2_0 c9_2_1 c9_2_2 c9_2_3 c9_2_4 lt9_2 y9_2
    have hL := hO.apart
    have hX := hO.apartX
    have HL := Lib.hid hL
    have HX := Lib.hid hX
    clear hL hX
    have hP9 := hO.pick [] (by decide)
    have T9 := newId  _ _ _ hP9 
    refine Calls.mono T9 ?_
    clear hP9 T9
    rintro e uw27 ⟨nd28, rfl, hQ⟩
    have hN : Own w0 uw27 [row (B1) 29 #[.nilIface, .int .i32 0], row (ib) 29 (full exZ IL ci), row (nd21) 204 #[.slice (some ⟨nd17, 0, none⟩) 1 (1 + nc18), .int .i32 0, .int .i32 0, .bool false, .bool false], row (nd17) 52 (full prZ [.pointer none, .nilIface, .int .i32 0, .iface 56 (.pointer (some ⟨nd13, 0, none⟩)), .int .i32 0, .nilIface, .int .i32 0, .slice none 0 0, .int .i32 0, .int .i32 0, .int .u8 5, .int .u8 0] nc18)] X := hQ.back HL.out HX.out [0, 1, 2, 3] (by decide) (by decide)
    clear hQ HL HX hO
    have hO := hN
    clear hN
    obtain ⟨c9_0_0, c9_0_1, lt9_0, y9_0, -⟩ := hO.k2 0 rfl
    obtain ⟨c9_2_0, c9_2_1, c9_2_2, c9_2_3, c9_2_4, lt9_2, y9_2, -⟩ := hO.k5 2 rfl
    have HO := Lib.hid hO
    clear hO
    go_wp2_with (first | (with_reducible refine Own.stay (fn := Tryz.f6) ?_) | (at_builtin; refine Own.appStop ?_) | fail)
    try with_reducible refine Own.Stay.mk ?_
    have hO := HO.out
    clear HO c9_0_0 c9_0_1 lt9_0 y9_0 c9_2_0 c9_2_1 c9_2_2 c9_2_3 c9_2_4 lt9_2 y9_2
    generalize hW : World.alloc _ _ = W30
    have hN : Own w0 W30 [row (uw27.heap.size) 29 #[.iface 56 (.pointer (some ⟨nd28, 0, none⟩)), .int .i32 0], row (B1) 29 #[.nilIface, .int .i32 0], row (ib) 29 (full exZ IL ci), row (nd21) 204 #[.slice (some ⟨nd17, 0, none⟩) 1 (1 + nc18), .int .i32 0, .int .i32 0, .bool false, .bool false], row (nd17) 52 (full prZ [.pointer none, .nilIface, .int .i32 0, .iface 56 (.pointer (some ⟨nd13, 0, none⟩)), .int .i32 0, .nilIface, .int .i32 0, .slice none 0 0, .int .i32 0, .int .i32 0, .int .u8 5, .int .u8 0] nc18)] X := by
      rw [← hW]
      exact (hO).alloc' _ (uw27.heap.size) (by simp)
    clear hW hO
    generalize uw27.heap.size = B29 at hN ⊢
    have hO := hN
    clear hN
    refine Own.AppStop.mk ?_
    obtain ⟨i9, hi9, z1, z2, z3⟩ := info_parts infoEx
    have hL := hO.apart
    have hX := hO.apartX
    have HL := Lib.hid hL
    have HX := Lib.hid hX
    clear hL hX
    have hP9 := hO.pick [2, 0] (by decide)
    refine Own.wpList_append_full rfl (.tmp 39) (.tmp 41) 45 rfl 29 i9 (.agg exZ) 2 24 Tryz.underlying45 hi9 z1 z2 z3 rfl (by decide) hP9 rfl rfl (by first | rfl | assumption | (simp; done) | (simp; omega)) (by first | rfl | assumption | omega) rfl (oneAll rfl) (by first | decide | omega | (unfold maxLen; omega)) (by first | decide | omega | (unfold maxLen; omega)) ?_
    intro nd31 nc32 u33 hQ
    clear hP9
    have hN : Own w0 u33 [row (nd31) 29 (full exZ (IL ++ [.iface 56 (.pointer (some ⟨nd28, 0, none⟩)), .int .i32 0]) nc32), row (B29) 29 #[.iface 56 (.pointer (some ⟨nd28, 0, none⟩)), .int .i32 0], row (B1) 29 #[.nilIface, .int .i32 0], row (nd21) 204 #[.slice (some ⟨nd17, 0, none⟩) 1 (1 + nc18), .int .i32 0, .int .i32 0, .bool false, .bool false], row (nd17) 52 (full prZ [.pointer none, .nilIface, .int .i32 0, .iface 56 (.pointer (some ⟨nd13, 0, none⟩)), .int .i32 0, .nilIface, .int .i32 0, .slice none 0 0, .int .i32 0, .int .i32 0, .int .u8 5, .int .u8 0] nc18)] X := hQ.back HL.out HX.out [1, 3, 4] (by decide) (by decide)
    clear hQ HL HX hO
    have hO := hN
    clear hN
    obtain ⟨c9_1_0, c9_1_1, lt9_1, y9_1, -⟩ := hO.k2 1 rfl
    obtain ⟨c9_2_0, c9_2_1, lt9_2, y9_2, -⟩ := hO.k2 2 rfl
    obtain ⟨c9_3_0, c9_3_1, c9_3_2, c9_3_3, c9_3_4, lt9_3, y9_3, -⟩ := hO.k5 3 rfl
    have HO := Lib.hid hO
    clear hO
    go_wp2_with (first | (with_reducible refine Own.stay (fn := Tryz.f6) ?_) | (at_builtin; refine Own.appStop ?_) | fail)
    try with_reducible refine Own.Stay.mk ?_
    have hO := HO.out
    clear HO c9_1_0 c9_1_1 lt9_1 y9_1 c9_2_0 c9_2_1 lt9_2 y9_2 c9_3_0 c9_3_1 c9_3_2 c9_3_3 c9_3_4 lt9_3 y9_3
    go_roundg gq
    case measure => omega
    case rel => exact ⟨i + 1, nd31, nc32, _, by omega, by first | rfl | simp, by first | rfl | simp, hI9.out.snoc, hO.sub [2, 0, 3, 4] (by decide)⟩
  obtain rfl : gk = 0 := by omega
  obtain rfl : tt = i := by omega
  have hlt9 : ¬ (tt : Int) < (tt : Int) := by omega
  have hI9 := Lib.hid hI
  clear hI
  obtain ⟨c9_0_0, c9_0_1, lt9_0, y9_0, -⟩ := hO.k2 0 rfl
  obtain ⟨c9_2_0, c9_2_1, c9_2_2, c9_2_3, c9_2_4, lt9_2, y9_2, -⟩ := hO.k5 2 rfl
  have HO := Lib.hid hO
  clear hO
  go_wp2_with (first | (with_reducible refine Own.stay (fn := Tryz.f6) ?_) | (at_builtin; refine Own.appStop ?_) | fail)
  try with_reducible refine Own.Stay.mk ?_
  have hO := HO.out
  clear HO c9_0_0 c9_0_1 lt9_0 y9_0 c9_2_0 c9_2_1 c9_2_2 c9_2_3 c9_2_4 lt9_2 y9_2
  have hL := hO.apart
  have hX := hO.apartX
  have HL := Lib.hid hL
  have HX := Lib.hid hX
  clear hL hX
  have hP9 := hO.pick [] (by decide)
  have T9 := newAr ib ((mm + 1) + tt) (((mm + 1) + tt) + ci) _ _ _ hP9 
  refine Calls.mono T9 ?_
  clear hP9 T9
  rintro e uw34 ⟨nd35, rfl, hQ⟩
  have hN : Own w0 uw34 [row (nd35) 207 #[.slice (some ⟨ib, 0, none⟩) ((mm + 1) + tt) (((mm + 1) + tt) + ci), .int .i32 0, .int .i32 0, .bool false, .bool false], row (B1) 29 #[.nilIface, .int .i32 0], row (ib) 29 (full exZ IL ci), row (nd21) 204 #[.slice (some ⟨nd17, 0, none⟩) 1 (1 + nc18), .int .i32 0, .int .i32 0, .bool false, .bool false], row (nd17) 52 (full prZ [.pointer none, .nilIface, .int .i32 0, .iface 56 (.pointer (some ⟨nd13, 0, none⟩)), .int .i32 0, .nilIface, .int .i32 0, .slice none 0 0, .int .i32 0, .int .i32 0, .int .u8 5, .int .u8 0] nc18)] X := hQ.back HL.out HX.out [0, 1, 2, 3] (by decide) (by decide)
  clear hQ HL HX hO
  have hO := hN
  clear hN
  obtain ⟨c9_0_0, c9_0_1, c9_0_2, c9_0_3, c9_0_4, lt9_0, y9_0, -⟩ := hO.k5 0 rfl
  obtain ⟨c9_1_0, c9_1_1, lt9_1, y9_1, -⟩ := hO.k2 1 rfl
  obtain ⟨c9_3_0, c9_3_1, c9_3_2, c9_3_3, c9_3_4, lt9_3, y9_3, -⟩ := hO.k5 3 rfl
  have HO := Lib.hid hO
  clear hO
  go_wp2_with (first | (with_reducible refine Own.stay (fn := Tryz.f6) ?_) | (at_builtin; refine Own.appStop ?_) | fail)
  try with_reducible refine Own.Stay.mk ?_
  have hO := HO.out
  clear HO c9_0_0 c9_0_1 c9_0_2 c9_0_3 c9_0_4 lt9_0 y9_0 c9_1_0 c9_1_1 lt9_1 y9_1 c9_3_0 c9_3_1 c9_3_2 c9_3_3 c9_3_4 lt9_3 y9_3
  generalize hW : World.setCell _ _ _ = W37
  have hN : Own w0 W37 [row (nd35) 207 #[.slice (some ⟨ib, 0, none⟩) ((mm + 1) + tt) (((mm + 1) + tt) + ci), .int .i32 0, .int .i32 0, .bool false, .bool false], row (B1) 29 #[.iface 205 (.pointer (some ⟨nd35, 0, none⟩)), .int .i32 0], row (ib) 29 (full exZ IL ci), row (nd21) 204 #[.slice (some ⟨nd17, 0, none⟩) 1 (1 + nc18), .int .i32 0, .int .i32 0, .bool false, .bool false], row (nd17) 52 (full prZ [.pointer none, .nilIface, .int .i32 0, .iface 56 (.pointer (some ⟨nd13, 0, none⟩)), .int .i32 0, .nilIface, .int .i32 0, .slice none 0 0, .int .i32 0, .int .i32 0, .int .u8 5, .int .u8 0] nc18)] X := by
    rw [← hW]
    exact ((hO).set 1 rfl 0 _).set 1 rfl 1 _
  clear hW hO
  have hO := hN
  clear hN
  have z9_1_0 : W37.cell? ⟨B1, 0, none⟩ = some (.iface 205 (.pointer (some ⟨nd35, 0, none⟩))) := hO.cell 1 rfl 0 rfl
  have z9_1_1 : W37.cell? ⟨B1, 1, none⟩ = some (.int .i32 0) := hO.cell 1 rfl 1 rfl
  refine bodyPost_ret (v := .agg #[.iface 205 (.pointer (some ⟨nd35, 0, none⟩)), .int .i32 0]) ?_ rfl ⟨ib, ci, IL, nd21, nd17, nc18, nd13, nd35, rfl, hI9.out, hO.sub [0, 2, 3, 4] (by decide)⟩
  simp [results, Tryz.results6, go_sem, z9_1_0, z9_1_1]
end Go.Proofs.YtghofdhhhbbaaaaGreatDoor.Use
