/- A visit of an array of identifiers. No condition. -/
import Derived.Test.YtghofdhhhbbaaaaGreatDoorFndk
import Derived.Test.YtghofdhhhbbaaaaGreatDoorAsg
import Derived.Test.YtghofdhhhbbaaaaGreatDoorIts
import Derived.Test.YtghofdhhhbbaaaaGreatDoorIfm
import Derived.Test.YtghofdhhhbbaaaaGreatDoorSla
import Derived.Test.YtghofdhhhbbaaaaGreatDoorLoop
import Derived.Test.YtghofdhhhbbaaaaGreatDoorMini
import Derived.Test.YtghofdhhhbbaaaaGreatDoorAppL
import Derived.Test.YtghofdhhhbbaaaaGreatDoorApp
import Derived.Test.YtghofdhhhbbaaaaGreatDoorOwnK
import Derived.Test.YtghofdhhhbbaaaaGreatDoorOwn
import Derived.Test.YtghofdhhhbbaaaaGreatDoorDeepCells
import Derived.Test.YtghofdhhhbbaaaaGreatDoorRows
import Derived.Test.YtghofdhhhbbaaaaGreatDoorLive
namespace Go.Proofs.YtghofdhhhbbaaaaGreatDoor.Use
open Go.ChangeShapes Go.WideShapes Go.ChangeAt Go.RowKit Go.Sort Own
set_option linter.unusedVariables false
def visTPost (xm xs xr xp xo xa mb ob ab eb va : Nat) (wa : Int) (tb ib ci : Nat) (IL : List Value) (tt : Nat) (lt8 : Int) (vi : Nat) (li : Int) (w0 : World) (X : Nat → Obj → Prop) (e : Ending) (w' : World) : Prop :=
  ∃ xn : Nat, e = .returned (.tuple #[]) ∧ Own w0 w' [row (xm) 246 #[.map (some mb)], ((mb, .map (imA [(202, ob), (205, ab)]) 2) : Rw), row (xa) 210 #[.func (Fn.func 25) #[] #[.pointer (some ⟨eb, 0, none⟩)]], row (eb) 29 #[.iface 241 (.pointer (some ⟨xn, 0, none⟩)), .int .i32 wa], row (tb) 207 #[.slice (some ⟨ib, 0, none⟩) tt (tt + ci), .int .i32 0, .int .i32 0, .bool false, .bool false], row (ib) 29 (full exZ IL ci)] X
set_option maxRecDepth 100000 in
set_option maxHeartbeats 2000000 in
theorem visT (xm xs xr xp xo xa mb ob ab eb va : Nat) (wa : Int) (tb ib ci : Nat) (IL : List Value) (tt : Nat) (lt8 : Int) (vi : Nat) (li : Int) (w0 w : World) (X : Nat → Obj → Prop) (hO : Own w0 w [row (xm) 246 #[.map (some mb)], ((mb, .map (imA [(202, ob), (205, ab)]) 2) : Rw), row (xa) 210 #[.func (Fn.func 25) #[] #[.pointer (some ⟨eb, 0, none⟩)]], row (eb) 29 #[.iface 241 (.pointer (some ⟨va, 0, none⟩)), .int .i32 wa], row (tb) 207 #[.slice (some ⟨ib, 0, none⟩) tt (tt + ci), .int .i32 0, .int .i32 0, .bool false, .bool false], row (ib) 29 (full exZ IL ci)] X) (hI : ItA IL 0 tt) (hlen : IL.length = tt * 2) (ht4 : tt ≤ 4096) :
    Calls Tryz.prog 45 #[.agg #[.iface 205 (.pointer (some ⟨tb, 0, none⟩)), .int .i32 lt8], .agg #[.iface 56 (.pointer (some ⟨vi, 0, none⟩)), .int .i32 li], .slice none 0 0, .pointer (some ⟨xm, 0, none⟩), .pointer (some ⟨xs, 0, none⟩), .pointer (some ⟨xr, 0, none⟩), .pointer (some ⟨xp, 0, none⟩), .pointer (some ⟨xo, 0, none⟩), .pointer (some ⟨xa, 0, none⟩)] w (visTPost xm xs xr xp xo xa mb ob ab eb va wa tb ib ci IL tt lt8 vi li w0 X) := by
  go_enter Tryz.func45, Tryz.ntmps45
  have HI := Lib.hid hI
  clear hI
  have ht8 : (tt : Int) ≤ 4096 := by omega
  have ht7 : (0 : Int) ≤ (tt : Int) := by omega
  obtain ⟨c9_0_0, lt9_0, y9_0, -⟩ := hO.k1 0 rfl
  obtain ⟨c9_2_0, lt9_2, y9_2, -⟩ := hO.k1 2 rfl
  obtain ⟨c9_3_0, c9_3_1, lt9_3, y9_3, -⟩ := hO.k2 3 rfl
  obtain ⟨c9_4_0, c9_4_1, c9_4_2, c9_4_3, c9_4_4, lt9_4, y9_4, -⟩ := hO.k5 4 rfl
  have HO := Lib.hid hO
  clear hO
  go_wp2_with (first | (with_reducible refine Own.stay (fn := Tryz.f45) ?_) | fail)
  try with_reducible refine Own.Stay.mk ?_
  have hO := HO.out
  clear HO c9_0_0 lt9_0 y9_0 c9_2_0 lt9_2 y9_2 c9_3_0 c9_3_1 lt9_3 y9_3 c9_4_0 c9_4_1 c9_4_2 c9_4_3 c9_4_4 lt9_4 y9_4
  generalize hW : World.alloc _ _ = W2
  have hN : Own w0 W2 [row (w.heap.size + 1) 29 #[.iface 56 (.pointer (some ⟨vi, 0, none⟩)), .int .i32 li], row (w.heap.size) 29 #[.iface 205 (.pointer (some ⟨tb, 0, none⟩)), .int .i32 lt8], row (xm) 246 #[.map (some mb)], ((mb, .map (imA [(202, ob), (205, ab)]) 2) : Rw), row (xa) 210 #[.func (Fn.func 25) #[] #[.pointer (some ⟨eb, 0, none⟩)]], row (eb) 29 #[.iface 241 (.pointer (some ⟨va, 0, none⟩)), .int .i32 wa], row (tb) 207 #[.slice (some ⟨ib, 0, none⟩) tt (tt + ci), .int .i32 0, .int .i32 0, .bool false, .bool false], row (ib) 29 (full exZ IL ci)] X := by
    rw [← hW]
    exact ((hO).alloc' _ (w.heap.size) (by simp)).alloc' _ (w.heap.size + 1) (by simp)
  clear hW hO
  generalize w.heap.size + 1 = B1_1 at hN ⊢
  generalize w.heap.size = B1 at hN ⊢
  have hO := hN
  clear hN
  go_loopg [32] tt (fun gf s32 wx => ∃ j : Nat, j + gf = tt ∧ s32 = .int .i64 (j : Int) ∧ Own w0 wx [row (B1_1) 29 #[.iface 56 (.pointer (some ⟨vi, 0, none⟩)), .int .i32 li], row (B1) 29 #[.iface 205 (.pointer (some ⟨tb, 0, none⟩)), .int .i32 lt8], row (xm) 246 #[.map (some mb)], ((mb, .map (imA [(202, ob), (205, ab)]) 2) : Rw), row (xa) 210 #[.func (Fn.func 25) #[] #[.pointer (some ⟨eb, 0, none⟩)]], row (eb) 29 #[.iface 241 (.pointer (some ⟨va, 0, none⟩)), .int .i32 wa], row (tb) 207 #[.slice (some ⟨ib, 0, none⟩) tt (tt + ci), .int .i32 0, .int .i32 0, .bool false, .bool false], row (ib) 29 (full exZ IL ci)] X)
  case atStart => exact ⟨0, by omega, rfl, hO⟩
  obtain ⟨j, hjn, rfl, hO⟩ := hrel
  by_cases hlt : j < tt
  · skip
    obtain ⟨gq, rfl⟩ : ∃ gq, gk = gq + 1 := ⟨gk - 1, by omega⟩
    have hlt9 : (j : Int) < (tt : Int) := by omega
    have hj8 : (0 : Int) ≤ (j : Int) := by omega
    have hj7 : (j : Int) ≤ 4096 := by omega
    obtain ⟨vn, hv0, hv1⟩ := HI.out j (by omega) hlt
    obtain ⟨ix9, hix9, hax9, hjx9⟩ := hO.ix
    have ix9_0 : ix9 B1_1 = 0 := hjx9 0 _ _ rfl
    have ix9_1 : ix9 B1 = 1 := hjx9 1 _ _ rfl
    have ix9_2 : ix9 xm = 2 := hjx9 2 _ _ rfl
    have ix9_3 : ix9 mb = 3 := hjx9 3 _ _ rfl
    have ix9_4 : ix9 xa = 4 := hjx9 4 _ _ rfl
    have ix9_5 : ix9 eb = 5 := hjx9 5 _ _ rfl
    have ix9_6 : ix9 tb = 6 := hjx9 6 _ _ rfl
    have ix9_7 : ix9 ib = 7 := hjx9 7 _ _ rfl
    clear hjx9
    obtain ⟨c9_0_0, c9_0_1, lt9_0, y9_0, pl9_0⟩ := hO.k2 0 rfl
    obtain ⟨c9_1_0, c9_1_1, lt9_1, y9_1, pl9_1⟩ := hO.k2 1 rfl
    obtain ⟨c9_2_0, lt9_2, y9_2, -⟩ := hO.k1 2 rfl
    obtain ⟨c9_4_0, lt9_4, y9_4, -⟩ := hO.k1 4 rfl
    obtain ⟨c9_5_0, c9_5_1, lt9_5, y9_5, pl9_5⟩ := hO.k2 5 rfl
    obtain ⟨c9_6_0, c9_6_1, c9_6_2, c9_6_3, c9_6_4, lt9_6, y9_6, -⟩ := hO.k5 6 rfl
    have pl9_7 : Base.plainAt wr (ib) = true := hO.plain 7 rfl
    have c9_7_j_2 : wr.cell? ⟨ib, j * 2, none⟩ = some (.iface 56 (.pointer (some ⟨vn, 0, none⟩))) := hO.cell 7 rfl (j * 2) ((full_at hv0))
    have c9_7_j_2_1 : wr.cell? ⟨ib, j * 2 + 1, none⟩ = some (.int .i32 0) := hO.cell 7 rfl (j * 2 + 1) ((full_at hv1))
    have lt9_7 : ib < wr.heap.size := hO.lt 7 rfl
    have y9_7 : ∀ o, wr.frozen? ⟨ib, o, none⟩ = false := hO.free 7 rfl
    have HO := Lib.hid hO
    clear hO
    go_wp2_with (first | (with_reducible refine Own.stay (fn := Tryz.f45) ?_) | (at_lookup; refine wpList_lookup_im_no (l := [(202, ob), (205, ab)]) rfl rfl Tryz.underlying246 ktI (Base.MapAt.alloc (HO.out.mapAt 3 rfl) _) rfl rfl (.bool false) (Tryz.zeroValue4 _) rfl ?_))
    try with_reducible refine Own.Stay.mk ?_
    have hO := HO.out
    clear HO hix9 hax9 ix9_0 ix9_1 ix9_2 ix9_3 ix9_4 ix9_5 ix9_6 ix9_7 ix9 c9_0_0 c9_0_1 lt9_0 y9_0 pl9_0 c9_1_0 c9_1_1 lt9_1 y9_1 pl9_1 c9_2_0 lt9_2 y9_2 c9_4_0 lt9_4 y9_4 c9_5_0 c9_5_1 lt9_5 y9_5 pl9_5 c9_6_0 c9_6_1 c9_6_2 c9_6_3 c9_6_4 lt9_6 y9_6 pl9_7 c9_7_j_2 c9_7_j_2_1 lt9_7 y9_7
    generalize hW : World.alloc _ _ = W4
    have hN : Own w0 W4 [row (wr.heap.size) 29 #[.iface 56 (.pointer (some ⟨vn, 0, none⟩)), .int .i32 0], row (B1_1) 29 #[.iface 56 (.pointer (some ⟨vi, 0, none⟩)), .int .i32 li], row (B1) 29 #[.iface 205 (.pointer (some ⟨tb, 0, none⟩)), .int .i32 lt8], row (xm) 246 #[.map (some mb)], ((mb, .map (imA [(202, ob), (205, ab)]) 2) : Rw), row (xa) 210 #[.func (Fn.func 25) #[] #[.pointer (some ⟨eb, 0, none⟩)]], row (eb) 29 #[.iface 241 (.pointer (some ⟨va, 0, none⟩)), .int .i32 wa], row (tb) 207 #[.slice (some ⟨ib, 0, none⟩) tt (tt + ci), .int .i32 0, .int .i32 0, .bool false, .bool false], row (ib) 29 (full exZ IL ci)] X := by
      rw [← hW]
      exact (hO).alloc' _ (wr.heap.size) (by simp)
    clear hW hO
    generalize wr.heap.size = B3 at hN ⊢
    have hO := hN
    clear hN
    go_roundg gq
    case measure => omega
    case rel => exact ⟨j + 1, by omega, by first | rfl | simp, hO.sub [1, 2, 3, 4, 5, 6, 7, 8] (by decide)⟩
  obtain rfl : gk = 0 := by omega
  obtain rfl : tt = j := by omega
  have hlt9 : ¬ (tt : Int) < (tt : Int) := by omega
  obtain ⟨c9_0_0, c9_0_1, lt9_0, y9_0, -⟩ := hO.k2 0 rfl
  obtain ⟨c9_1_0, c9_1_1, lt9_1, y9_1, -⟩ := hO.k2 1 rfl
  obtain ⟨c9_2_0, lt9_2, y9_2, -⟩ := hO.k1 2 rfl
  obtain ⟨c9_4_0, lt9_4, y9_4, -⟩ := hO.k1 4 rfl
  obtain ⟨c9_5_0, c9_5_1, lt9_5, y9_5, -⟩ := hO.k2 5 rfl
  obtain ⟨c9_6_0, c9_6_1, c9_6_2, c9_6_3, c9_6_4, lt9_6, y9_6, -⟩ := hO.k5 6 rfl
  have HO := Lib.hid hO
  clear hO
  go_wp2_with (first | (with_reducible refine Own.stay (fn := Tryz.f45) ?_) | fail)
  try with_reducible refine Own.Stay.mk ?_
  have hO := HO.out
  clear HO c9_0_0 c9_0_1 lt9_0 y9_0 c9_1_0 c9_1_1 lt9_1 y9_1 c9_2_0 lt9_2 y9_2 c9_4_0 lt9_4 y9_4 c9_5_0 c9_5_1 lt9_5 y9_5 c9_6_0 c9_6_1 c9_6_2 c9_6_3 c9_6_4 lt9_6 y9_6
  have hL := hO.apart
  have hX := hO.apartX
  have HL := Lib.hid hL
  have HX := Lib.hid hX
  clear hL hX
  have hP9 := hO.pick [5] (by decide)
  have T9 := asg1 eb va wa 205 tb lt8 56 vi li _ _ _ hP9 
  refine Calls.mono T9 ?_
  clear hP9 T9
  rintro e uw5 ⟨nd6, rfl, hQ⟩
  have hN : Own w0 uw5 [row (eb) 29 #[.iface 241 (.pointer (some ⟨nd6, 0, none⟩)), .int .i32 wa], row (B1_1) 29 #[.iface 56 (.pointer (some ⟨vi, 0, none⟩)), .int .i32 li], row (B1) 29 #[.iface 205 (.pointer (some ⟨tb, 0, none⟩)), .int .i32 lt8], row (xm) 246 #[.map (some mb)], ((mb, .map (imA [(202, ob), (205, ab)]) 2) : Rw), row (xa) 210 #[.func (Fn.func 25) #[] #[.pointer (some ⟨eb, 0, none⟩)]], row (tb) 207 #[.slice (some ⟨ib, 0, none⟩) tt (tt + ci), .int .i32 0, .int .i32 0, .bool false, .bool false], row (ib) 29 (full exZ IL ci)] X := hQ.back HL.out HX.out [0, 1, 2, 3, 4, 6, 7] (by decide) (by decide)
  clear hQ HL HX hO
  have hO := hN
  clear hN
  obtain ⟨c9_0_0, c9_0_1, lt9_0, y9_0, -⟩ := hO.k2 0 rfl
  obtain ⟨c9_1_0, c9_1_1, lt9_1, y9_1, -⟩ := hO.k2 1 rfl
  obtain ⟨c9_2_0, c9_2_1, lt9_2, y9_2, -⟩ := hO.k2 2 rfl
  obtain ⟨c9_3_0, lt9_3, y9_3, -⟩ := hO.k1 3 rfl
  obtain ⟨c9_5_0, lt9_5, y9_5, -⟩ := hO.k1 5 rfl
  obtain ⟨c9_6_0, c9_6_1, c9_6_2, c9_6_3, c9_6_4, lt9_6, y9_6, -⟩ := hO.k5 6 rfl
  have HO := Lib.hid hO
  clear hO
  go_wp2_with (first | (with_reducible refine Own.stay (fn := Tryz.f45) ?_) | fail)
  try with_reducible refine Own.Stay.mk ?_
  have hO := HO.out
  clear HO c9_0_0 c9_0_1 lt9_0 y9_0 c9_1_0 c9_1_1 lt9_1 y9_1 c9_2_0 c9_2_1 lt9_2 y9_2 c9_3_0 lt9_3 y9_3 c9_5_0 lt9_5 y9_5 c9_6_0 c9_6_1 c9_6_2 c9_6_3 c9_6_4 lt9_6 y9_6
  refine bodyPost_ret (v := .tuple #[]) ?_ rfl ⟨nd6, rfl, hO.sub [3, 4, 5, 0, 6, 7] (by decide)⟩
  simp [results, Tryz.results45, go_sem]
end Go.Proofs.YtghofdhhhbbaaaaGreatDoor.Use
