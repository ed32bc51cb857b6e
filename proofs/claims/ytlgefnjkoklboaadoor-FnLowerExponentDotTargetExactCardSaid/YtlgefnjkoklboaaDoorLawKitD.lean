/- What a law on obj.name asks at its end. No condition. -/
import Derived.Test.YtlgefnjkoklboaaDoorOwn
import Derived.Test.YtlgefnjkoklboaaDoorDeepCells
import Derived.Test.YtlgefnjkoklboaaDoorRows
import Derived.Test.YtlgefnjkoklboaaDoorUse
import Derived.Test.YtlgefnjkoklboaaDoorPow
import Derived.Test.YtlgefnjkoklboaaDoorPowFn
import Derived.Test.YtlgefnjkoklboaaDoorLowExp
import Derived.Test.YtlgefnjkoklboaaDoorNew
import Derived.Test.YtlgefnjkoklboaaDoorLaws
import Derived.Test.YtlgefnjkoklboaaDoorHelp
import Derived.Test.YtlgefnjkoklboaaDoorLawKit
import Derived.Test.YtlgefnjkoklboaaDoorLowDot
namespace Go.Proofs.YtlgefnjkoklboaaDoor.Use
open Go.ChangeShapes Go.WideShapes Go.ChangeAt Go.RowKit Go.Sort Own
set_option linter.unusedVariables false
theorem sum3 {n i j : Nat} (hi : i < n) (hj : j < n) : l131.sumTo (bump (bump (bump (fun _ => 0) i) i) j) n = 3 := by
  rw [sum_bump, sum_bump, sum_bump, sum_zero, if_pos hi, if_pos hj]
theorem le3 (i j : Nat) (n : Nat) : ∀ k, k < n → bump (bump (bump (fun _ => 0) i) i) j k ≤ 4294967295 := fun k _ =>
  Nat.le_trans (bump_le _ _ 2 (bump_le _ _ 1 (bump_le _ _ 0 (fun _ => Nat.le_refl 0))) k) (by decide)
theorem three_l {i j : Nat} (h : i ≠ j) : bump (bump (bump (fun _ => 0) i) i) j i = 2 := by simp [bump, h]
theorem three_r {i j : Nat} (h : i ≠ j) : bump (bump (bump (fun _ => 0) i) i) j j = 1 := by simp [bump, Ne.symm h]
theorem three_e (i : Nat) : bump (bump (bump (fun _ => 0) i) i) i i = 3 := by simp [bump]

def asIdentOPost (b : Nat) (l : Int) (w0 : World) (X : Nat → Obj → Prop) (e : Ending) (w' : World) : Prop :=
  e = .returned (.pointer (some ⟨b, 0, none⟩)) ∧ Own w0 w' [] X
theorem asIdentO (b : Nat) (l : Int) (w0 w : World) (X : Nat → Obj → Prop) (hO : Own w0 w [] X)  :
    Calls Tryd.prog 20 #[.agg #[.iface 55 (.pointer (some ⟨b, 0, none⟩)), .int .i32 l]] w (asIdentOPost b l w0 X) := by
  refine Calls.mono (asIdent b l w) ?_
  rintro e w' ⟨rfl, hb⟩
  exact ⟨rfl, hO.step hb⟩

def identIsOPost (b : Nat) (l s i : Int) (w0 : World) (X : Nat → Obj → Prop) (e : Ending) (w' : World) : Prop :=
  e = .returned (.bool true) ∧ Own w0 w' [row (b) 214 #[.int .u32 s, .int .u32 i, .bool false, .bool false, .bool false]] X
theorem identIsO (b : Nat) (l s i : Int) (w0 w : World) (X : Nat → Obj → Prop) (hO : Own w0 w [row (b) 214 #[.int .u32 s, .int .u32 i, .bool false, .bool false, .bool false]] X)  :
    Calls Tryd.prog 23 #[.agg #[.iface 55 (.pointer (some ⟨b, 0, none⟩)), .int .i32 l], .int .i32 l, .agg #[.int .u32 s, .int .u32 i]] w (identIsOPost b l s i w0 X) := by
  refine Calls.mono (identIs b l s i w (hO.cell 0 rfl 0 rfl) (hO.cell 0 rfl 1 rfl)) ?_
  rintro e w' ⟨rfl, hb⟩
  exact ⟨rfl, hO.step hb⟩

def bytesOPost (x src m k tl ll nl loc : Int) (nm : ByteArray) (v : Nat) (w0 : World) (X : Nat → Obj → Prop) (e : Ending) (w' : World) : Prop :=
  e = .returned (.bool true) ∧ Own w0 w' [] X
set_option maxRecDepth 100000 in
set_option maxHeartbeats 1000000 in
theorem bytesO (x src m k tl ll nl loc : Int) (nm : ByteArray) (v : Nat) (w0 w : World) (X : Nat → Obj → Prop) (hO : Own w0 w [] X) (hlen : nm.size ≤ 1048576) :
    Calls Tryd.prog 30 #[.int .u64 x, .int .u32 src, .int .u32 m, .int .u32 k, .int .i32 tl, .int .i32 ll, .int .i32 nl, .int .i32 loc, .string nm, .float .f64 v] w (bytesOPost x src m k tl ll nl loc nm v w0 X) := by
  go_enter Tryd.func30, Tryd.ntmps30
  have hl9 : (nm.size : Int) ≤ 1048576 := by omega
  go_wp2_with fail
  refine bodyPost_ret (v := .bool true) ?_ rfl ⟨rfl, hO.sub [] (by decide)⟩
  simp [results, Tryd.results30, go_sem]
def dotCopyOPost (d : Nat) (l s i : Int) (nm : ByteArray) (nl : Int) (og td tg : Nat) (tl : Int) (w0 : World) (X : Nat → Obj → Prop) (e : Ending) (w' : World) : Prop :=
  e = .returned (.pointer (some ⟨d, 0, none⟩)) ∧ Own w0 w' [row (d) 85 #[.iface 55 (.pointer (some ⟨td, 0, none⟩)), .int .i32 l, .string nm, .int .i32 nl, .int .u8 0, .bool false, .bool false, .bool false], row (og) 85 #[.iface 55 (.pointer (some ⟨tg, 0, none⟩)), .int .i32 tl, .string nm, .int .i32 nl, .int .u8 0, .bool false, .bool false, .bool false], row (td) 214 #[.int .u32 s, .int .u32 i, .bool false, .bool false, .bool false], row (tg) 214 #[.int .u32 s, .int .u32 i, .bool false, .bool false, .bool false]] X
set_option maxRecDepth 100000 in
set_option maxHeartbeats 1000000 in
theorem dotCopyO (d : Nat) (l s i : Int) (nm : ByteArray) (nl : Int) (og td tg : Nat) (tl : Int) (w0 w : World) (X : Nat → Obj → Prop) (hO : Own w0 w [row (d) 85 #[.iface 55 (.pointer (some ⟨td, 0, none⟩)), .int .i32 l, .string nm, .int .i32 nl, .int .u8 0, .bool false, .bool false, .bool false], row (og) 85 #[.iface 55 (.pointer (some ⟨tg, 0, none⟩)), .int .i32 tl, .string nm, .int .i32 nl, .int .u8 0, .bool false, .bool false, .bool false], row (td) 214 #[.int .u32 s, .int .u32 i, .bool false, .bool false, .bool false], row (tg) 214 #[.int .u32 s, .int .u32 i, .bool false, .bool false, .bool false]] X)  :
    Calls Tryd.prog 33 #[.agg #[.iface 81 (.pointer (some ⟨d, 0, none⟩)), .int .i32 l], .int .i32 l, .agg #[.int .u32 s, .int .u32 i], .string nm, .int .i32 nl, .pointer (some ⟨og, 0, none⟩)] w (dotCopyOPost d l s i nm nl og td tg tl w0 X) := by
  go_enter Tryd.func33, Tryd.ntmps33
  have pl9_0 : Base.plainAt w (d) = true := hO.plain 0 rfl
  have pl9_1 : Base.plainAt w (og) = true := hO.plain 1 rfl
  have pl9_2 : Base.plainAt w (td) = true := hO.plain 2 rfl
  have pl9_3 : Base.plainAt w (tg) = true := hO.plain 3 rfl
  have ne9_0_1 : ¬ d = og := hO.ne 0 1 rfl rfl (by decide)
  have ne9_1_0 : ¬ og = d := hO.ne 1 0 rfl rfl (by decide)
  have ne9_2_3 : ¬ td = tg := hO.ne 2 3 rfl rfl (by decide)
  have ne9_3_2 : ¬ tg = td := hO.ne 3 2 rfl rfl (by decide)
  have c9_0_0 : w.cell? ⟨d, 0, none⟩ = some (.iface 55 (.pointer (some ⟨td, 0, none⟩))) := hO.cell 0 rfl 0 rfl
  have c9_0_1 : w.cell? ⟨d, 1, none⟩ = some (.int .i32 l) := hO.cell 0 rfl 1 rfl
  have c9_0_2 : w.cell? ⟨d, 2, none⟩ = some (.string nm) := hO.cell 0 rfl 2 rfl
  have c9_0_3 : w.cell? ⟨d, 3, none⟩ = some (.int .i32 nl) := hO.cell 0 rfl 3 rfl
  have c9_0_4 : w.cell? ⟨d, 4, none⟩ = some (.int .u8 0) := hO.cell 0 rfl 4 rfl
  have c9_0_5 : w.cell? ⟨d, 5, none⟩ = some (.bool false) := hO.cell 0 rfl 5 rfl
  have c9_0_6 : w.cell? ⟨d, 6, none⟩ = some (.bool false) := hO.cell 0 rfl 6 rfl
  have c9_0_7 : w.cell? ⟨d, 7, none⟩ = some (.bool false) := hO.cell 0 rfl 7 rfl
  have lt9_0 : d < w.heap.size := hO.lt 0 rfl
  have y9_0 : ∀ o, w.frozen? ⟨d, o, none⟩ = false := hO.free 0 rfl
  have c9_1_0 : w.cell? ⟨og, 0, none⟩ = some (.iface 55 (.pointer (some ⟨tg, 0, none⟩))) := hO.cell 1 rfl 0 rfl
  have c9_1_1 : w.cell? ⟨og, 1, none⟩ = some (.int .i32 tl) := hO.cell 1 rfl 1 rfl
  have c9_1_2 : w.cell? ⟨og, 2, none⟩ = some (.string nm) := hO.cell 1 rfl 2 rfl
  have c9_1_3 : w.cell? ⟨og, 3, none⟩ = some (.int .i32 nl) := hO.cell 1 rfl 3 rfl
  have c9_1_4 : w.cell? ⟨og, 4, none⟩ = some (.int .u8 0) := hO.cell 1 rfl 4 rfl
  have c9_1_5 : w.cell? ⟨og, 5, none⟩ = some (.bool false) := hO.cell 1 rfl 5 rfl
  have c9_1_6 : w.cell? ⟨og, 6, none⟩ = some (.bool false) := hO.cell 1 rfl 6 rfl
  have c9_1_7 : w.cell? ⟨og, 7, none⟩ = some (.bool false) := hO.cell 1 rfl 7 rfl
  have lt9_1 : og < w.heap.size := hO.lt 1 rfl
  have y9_1 : ∀ o, w.frozen? ⟨og, o, none⟩ = false := hO.free 1 rfl
  have c9_2_0 : w.cell? ⟨td, 0, none⟩ = some (.int .u32 s) := hO.cell 2 rfl 0 rfl
  have c9_2_1 : w.cell? ⟨td, 1, none⟩ = some (.int .u32 i) := hO.cell 2 rfl 1 rfl
  have c9_2_2 : w.cell? ⟨td, 2, none⟩ = some (.bool false) := hO.cell 2 rfl 2 rfl
  have c9_2_3 : w.cell? ⟨td, 3, none⟩ = some (.bool false) := hO.cell 2 rfl 3 rfl
  have c9_2_4 : w.cell? ⟨td, 4, none⟩ = some (.bool false) := hO.cell 2 rfl 4 rfl
  have lt9_2 : td < w.heap.size := hO.lt 2 rfl
  have y9_2 : ∀ o, w.frozen? ⟨td, o, none⟩ = false := hO.free 2 rfl
  have c9_3_0 : w.cell? ⟨tg, 0, none⟩ = some (.int .u32 s) := hO.cell 3 rfl 0 rfl
  have c9_3_1 : w.cell? ⟨tg, 1, none⟩ = some (.int .u32 i) := hO.cell 3 rfl 1 rfl
  have c9_3_2 : w.cell? ⟨tg, 2, none⟩ = some (.bool false) := hO.cell 3 rfl 2 rfl
  have c9_3_3 : w.cell? ⟨tg, 3, none⟩ = some (.bool false) := hO.cell 3 rfl 3 rfl
  have c9_3_4 : w.cell? ⟨tg, 4, none⟩ = some (.bool false) := hO.cell 3 rfl 4 rfl
  have lt9_3 : tg < w.heap.size := hO.lt 3 rfl
  have y9_3 : ∀ o, w.frozen? ⟨tg, o, none⟩ = false := hO.free 3 rfl
  have HO := Lib.hid hO
  clear hO
  go_wp2_with (go_at_call 32; go_in)
  have hO := HO.out
  clear HO pl9_0 pl9_1 pl9_2 pl9_3 ne9_0_1 ne9_1_0 ne9_2_3 ne9_3_2 c9_0_0 c9_0_1 c9_0_2 c9_0_3 c9_0_4 c9_0_5 c9_0_6 c9_0_7 lt9_0 y9_0 c9_1_0 c9_1_1 c9_1_2 c9_1_3 c9_1_4 c9_1_5 c9_1_6 c9_1_7 lt9_1 y9_1 c9_2_0 c9_2_1 c9_2_2 c9_2_3 c9_2_4 lt9_2 y9_2 c9_3_0 c9_3_1 c9_3_2 c9_3_3 c9_3_4 lt9_3 y9_3
  generalize hW : World.alloc _ _ = W2
  have hN : Own w0 W2 [row (w.heap.size + 1 + 1) 34 #[.iface 81 (.pointer (some ⟨d, 0, none⟩)), .int .i32 l], row (w.heap.size + 1) 28 #[.int .u32 s, .int .u32 i], row (w.heap.size) 34 #[.iface 81 (.pointer (some ⟨d, 0, none⟩)), .int .i32 l], row (d) 85 #[.iface 55 (.pointer (some ⟨td, 0, none⟩)), .int .i32 l, .string nm, .int .i32 nl, .int .u8 0, .bool false, .bool false, .bool false], row (og) 85 #[.iface 55 (.pointer (some ⟨tg, 0, none⟩)), .int .i32 tl, .string nm, .int .i32 nl, .int .u8 0, .bool false, .bool false, .bool false], row (td) 214 #[.int .u32 s, .int .u32 i, .bool false, .bool false, .bool false], row (tg) 214 #[.int .u32 s, .int .u32 i, .bool false, .bool false, .bool false]] X := by
    rw [← hW]
    exact (((hO).alloc' _ (w.heap.size) (by simp)).alloc' _ (w.heap.size + 1) (by simp)).alloc' _ (w.heap.size + 1 + 1) (by simp)
  clear hW hO
  generalize w.heap.size + 1 + 1 = B1_2 at hN ⊢
  generalize w.heap.size + 1 = B1_1 at hN ⊢
  generalize w.heap.size = B1 at hN ⊢
  have hO := hN
  clear hN
  have kq9_0_0 := cell_regrown (show W2.cell? ⟨B1_2, 0, none⟩ = some (.iface 81 (.pointer (some ⟨d, 0, none⟩))) from hO.cell 0 rfl 0 (rfl))
  have kq9_0_1 := cell_regrown (show W2.cell? ⟨B1_2, 1, none⟩ = some (.int .i32 l) from hO.cell 0 rfl 1 (rfl))
  have kq9_1_0 := cell_regrown (show W2.cell? ⟨B1_1, 0, none⟩ = some (.int .u32 s) from hO.cell 1 rfl 0 (rfl))
  have kq9_1_1 := cell_regrown (show W2.cell? ⟨B1_1, 1, none⟩ = some (.int .u32 i) from hO.cell 1 rfl 1 (rfl))
  have kq9_2_0 := cell_regrown (show W2.cell? ⟨B1, 0, none⟩ = some (.iface 81 (.pointer (some ⟨d, 0, none⟩))) from hO.cell 2 rfl 0 (rfl))
  have kq9_2_1 := cell_regrown (show W2.cell? ⟨B1, 1, none⟩ = some (.int .i32 l) from hO.cell 2 rfl 1 (rfl))
  have kq9_3_0 := cell_regrown (show W2.cell? ⟨d, 0, none⟩ = some (.iface 55 (.pointer (some ⟨td, 0, none⟩))) from hO.cell 3 rfl 0 (rfl))
  have kq9_3_1 := cell_regrown (show W2.cell? ⟨d, 1, none⟩ = some (.int .i32 l) from hO.cell 3 rfl 1 (rfl))
  have kq9_3_2 := cell_regrown (show W2.cell? ⟨d, 2, none⟩ = some (.string nm) from hO.cell 3 rfl 2 (rfl))
  have kq9_3_3 := cell_regrown (show W2.cell? ⟨d, 3, none⟩ = some (.int .i32 nl) from hO.cell 3 rfl 3 (rfl))
  have kq9_3_4 := cell_regrown (show W2.cell? ⟨d, 4, none⟩ = some (.int .u8 0) from hO.cell 3 rfl 4 (rfl))
  have kq9_3_5 := cell_regrown (show W2.cell? ⟨d, 5, none⟩ = some (.bool false) from hO.cell 3 rfl 5 (rfl))
  have kq9_3_6 := cell_regrown (show W2.cell? ⟨d, 6, none⟩ = some (.bool false) from hO.cell 3 rfl 6 (rfl))
  have kq9_3_7 := cell_regrown (show W2.cell? ⟨d, 7, none⟩ = some (.bool false) from hO.cell 3 rfl 7 (rfl))
  have kq9_4_0 := cell_regrown (show W2.cell? ⟨og, 0, none⟩ = some (.iface 55 (.pointer (some ⟨tg, 0, none⟩))) from hO.cell 4 rfl 0 (rfl))
  have kq9_4_1 := cell_regrown (show W2.cell? ⟨og, 1, none⟩ = some (.int .i32 tl) from hO.cell 4 rfl 1 (rfl))
  have kq9_4_2 := cell_regrown (show W2.cell? ⟨og, 2, none⟩ = some (.string nm) from hO.cell 4 rfl 2 (rfl))
  have kq9_4_3 := cell_regrown (show W2.cell? ⟨og, 3, none⟩ = some (.int .i32 nl) from hO.cell 4 rfl 3 (rfl))
  have kq9_4_4 := cell_regrown (show W2.cell? ⟨og, 4, none⟩ = some (.int .u8 0) from hO.cell 4 rfl 4 (rfl))
  have kq9_4_5 := cell_regrown (show W2.cell? ⟨og, 5, none⟩ = some (.bool false) from hO.cell 4 rfl 5 (rfl))
  have kq9_4_6 := cell_regrown (show W2.cell? ⟨og, 6, none⟩ = some (.bool false) from hO.cell 4 rfl 6 (rfl))
  have kq9_4_7 := cell_regrown (show W2.cell? ⟨og, 7, none⟩ = some (.bool false) from hO.cell 4 rfl 7 (rfl))
  have kq9_5_0 := cell_regrown (show W2.cell? ⟨td, 0, none⟩ = some (.int .u32 s) from hO.cell 5 rfl 0 (rfl))
  have kq9_5_1 := cell_regrown (show W2.cell? ⟨td, 1, none⟩ = some (.int .u32 i) from hO.cell 5 rfl 1 (rfl))
  have kq9_5_2 := cell_regrown (show W2.cell? ⟨td, 2, none⟩ = some (.bool false) from hO.cell 5 rfl 2 (rfl))
  have kq9_5_3 := cell_regrown (show W2.cell? ⟨td, 3, none⟩ = some (.bool false) from hO.cell 5 rfl 3 (rfl))
  have kq9_5_4 := cell_regrown (show W2.cell? ⟨td, 4, none⟩ = some (.bool false) from hO.cell 5 rfl 4 (rfl))
  have kq9_6_0 := cell_regrown (show W2.cell? ⟨tg, 0, none⟩ = some (.int .u32 s) from hO.cell 6 rfl 0 (rfl))
  have kq9_6_1 := cell_regrown (show W2.cell? ⟨tg, 1, none⟩ = some (.int .u32 i) from hO.cell 6 rfl 1 (rfl))
  have kq9_6_2 := cell_regrown (show W2.cell? ⟨tg, 2, none⟩ = some (.bool false) from hO.cell 6 rfl 2 (rfl))
  have kq9_6_3 := cell_regrown (show W2.cell? ⟨tg, 3, none⟩ = some (.bool false) from hO.cell 6 rfl 3 (rfl))
  have kq9_6_4 := cell_regrown (show W2.cell? ⟨tg, 4, none⟩ = some (.bool false) from hO.cell 6 rfl 4 (rfl))
  have pl9_3 := plain_regrown (show Base.plainAt W2 (d) = true from hO.plain 3 rfl)
  have pl9_4 := plain_regrown (show Base.plainAt W2 (og) = true from hO.plain 4 rfl)
  have pl9_5 := plain_regrown (show Base.plainAt W2 (td) = true from hO.plain 5 rfl)
  have pl9_6 := plain_regrown (show Base.plainAt W2 (tg) = true from hO.plain 6 rfl)
  have ne9_3_4 : ¬ d = og := hO.ne 3 4 rfl rfl (by decide)
  have ne9_4_3 : ¬ og = d := hO.ne 4 3 rfl rfl (by decide)
  have ne9_5_6 : ¬ td = tg := hO.ne 5 6 rfl rfl (by decide)
  have ne9_6_5 : ¬ tg = td := hO.ne 6 5 rfl rfl (by decide)
  have HO := Lib.hid hO
  clear hO
  refine wp_region_quiet_below (by kernel_rfl) (by kernel_rfl) ?_
  repeat (quiet_step (first | (go_at_call 23; exact Calls.regrown_of (identIs _ _ _ _ _ (kq9_5_0 _ _) (kq9_5_1 _ _))) | (go_at_call 20; exact Calls.regrown_of (asIdent _ _ _))))
  refine wpQuiet_nil ?_
  intro _ hw'
  obtain ⟨⟨dq, osq⟩, hw''⟩ := hw'
  subst hw''
  have hO := HO.out.step (below_regrown W2 dq osq)
  clear HO kq9_0_0 kq9_0_1 kq9_1_0 kq9_1_1 kq9_2_0 kq9_2_1 kq9_3_0 kq9_3_1 kq9_3_2 kq9_3_3 kq9_3_4 kq9_3_5 kq9_3_6 kq9_3_7 kq9_4_0 kq9_4_1 kq9_4_2 kq9_4_3 kq9_4_4 kq9_4_5 kq9_4_6 kq9_4_7 kq9_5_0 kq9_5_1 kq9_5_2 kq9_5_3 kq9_5_4 kq9_6_0 kq9_6_1 kq9_6_2 kq9_6_3 kq9_6_4 pl9_3 pl9_4 pl9_5 pl9_6 ne9_3_4 ne9_4_3 ne9_5_6 ne9_6_5
  generalize grow (redrawn W2 dq) osq = V3 at hO ⊢
  clear dq osq
  have pl9_0 : Base.plainAt V3 (B1_2) = true := hO.plain 0 rfl
  have pl9_1 : Base.plainAt V3 (B1_1) = true := hO.plain 1 rfl
  have pl9_2 : Base.plainAt V3 (B1) = true := hO.plain 2 rfl
  have pl9_3 : Base.plainAt V3 (d) = true := hO.plain 3 rfl
  have pl9_4 : Base.plainAt V3 (og) = true := hO.plain 4 rfl
  have pl9_5 : Base.plainAt V3 (td) = true := hO.plain 5 rfl
  have pl9_6 : Base.plainAt V3 (tg) = true := hO.plain 6 rfl
  have ne9_0_2 : ¬ B1_2 = B1 := hO.ne 0 2 rfl rfl (by decide)
  have ne9_2_0 : ¬ B1 = B1_2 := hO.ne 2 0 rfl rfl (by decide)
  have ne9_3_4 : ¬ d = og := hO.ne 3 4 rfl rfl (by decide)
  have ne9_4_3 : ¬ og = d := hO.ne 4 3 rfl rfl (by decide)
  have ne9_5_6 : ¬ td = tg := hO.ne 5 6 rfl rfl (by decide)
  have ne9_6_5 : ¬ tg = td := hO.ne 6 5 rfl rfl (by decide)
  have c9_0_0 : V3.cell? ⟨B1_2, 0, none⟩ = some (.iface 81 (.pointer (some ⟨d, 0, none⟩))) := hO.cell 0 rfl 0 rfl
  have c9_0_1 : V3.cell? ⟨B1_2, 1, none⟩ = some (.int .i32 l) := hO.cell 0 rfl 1 rfl
  have lt9_0 : B1_2 < V3.heap.size := hO.lt 0 rfl
  have y9_0 : ∀ o, V3.frozen? ⟨B1_2, o, none⟩ = false := hO.free 0 rfl
  have c9_1_0 : V3.cell? ⟨B1_1, 0, none⟩ = some (.int .u32 s) := hO.cell 1 rfl 0 rfl
  have c9_1_1 : V3.cell? ⟨B1_1, 1, none⟩ = some (.int .u32 i) := hO.cell 1 rfl 1 rfl
  have lt9_1 : B1_1 < V3.heap.size := hO.lt 1 rfl
  have y9_1 : ∀ o, V3.frozen? ⟨B1_1, o, none⟩ = false := hO.free 1 rfl
  have c9_2_0 : V3.cell? ⟨B1, 0, none⟩ = some (.iface 81 (.pointer (some ⟨d, 0, none⟩))) := hO.cell 2 rfl 0 rfl
  have c9_2_1 : V3.cell? ⟨B1, 1, none⟩ = some (.int .i32 l) := hO.cell 2 rfl 1 rfl
  have lt9_2 : B1 < V3.heap.size := hO.lt 2 rfl
  have y9_2 : ∀ o, V3.frozen? ⟨B1, o, none⟩ = false := hO.free 2 rfl
  have c9_3_0 : V3.cell? ⟨d, 0, none⟩ = some (.iface 55 (.pointer (some ⟨td, 0, none⟩))) := hO.cell 3 rfl 0 rfl
  have c9_3_1 : V3.cell? ⟨d, 1, none⟩ = some (.int .i32 l) := hO.cell 3 rfl 1 rfl
  have c9_3_2 : V3.cell? ⟨d, 2, none⟩ = some (.string nm) := hO.cell 3 rfl 2 rfl
  have c9_3_3 : V3.cell? ⟨d, 3, none⟩ = some (.int .i32 nl) := hO.cell 3 rfl 3 rfl
  have c9_3_4 : V3.cell? ⟨d, 4, none⟩ = some (.int .u8 0) := hO.cell 3 rfl 4 rfl
  have c9_3_5 : V3.cell? ⟨d, 5, none⟩ = some (.bool false) := hO.cell 3 rfl 5 rfl
  have c9_3_6 : V3.cell? ⟨d, 6, none⟩ = some (.bool false) := hO.cell 3 rfl 6 rfl
  have c9_3_7 : V3.cell? ⟨d, 7, none⟩ = some (.bool false) := hO.cell 3 rfl 7 rfl
  have lt9_3 : d < V3.heap.size := hO.lt 3 rfl
  have y9_3 : ∀ o, V3.frozen? ⟨d, o, none⟩ = false := hO.free 3 rfl
  have c9_4_0 : V3.cell? ⟨og, 0, none⟩ = some (.iface 55 (.pointer (some ⟨tg, 0, none⟩))) := hO.cell 4 rfl 0 rfl
  have c9_4_1 : V3.cell? ⟨og, 1, none⟩ = some (.int .i32 tl) := hO.cell 4 rfl 1 rfl
  have c9_4_2 : V3.cell? ⟨og, 2, none⟩ = some (.string nm) := hO.cell 4 rfl 2 rfl
  have c9_4_3 : V3.cell? ⟨og, 3, none⟩ = some (.int .i32 nl) := hO.cell 4 rfl 3 rfl
  have c9_4_4 : V3.cell? ⟨og, 4, none⟩ = some (.int .u8 0) := hO.cell 4 rfl 4 rfl
  have c9_4_5 : V3.cell? ⟨og, 5, none⟩ = some (.bool false) := hO.cell 4 rfl 5 rfl
  have c9_4_6 : V3.cell? ⟨og, 6, none⟩ = some (.bool false) := hO.cell 4 rfl 6 rfl
  have c9_4_7 : V3.cell? ⟨og, 7, none⟩ = some (.bool false) := hO.cell 4 rfl 7 rfl
  have lt9_4 : og < V3.heap.size := hO.lt 4 rfl
  have y9_4 : ∀ o, V3.frozen? ⟨og, o, none⟩ = false := hO.free 4 rfl
  have c9_5_0 : V3.cell? ⟨td, 0, none⟩ = some (.int .u32 s) := hO.cell 5 rfl 0 rfl
  have c9_5_1 : V3.cell? ⟨td, 1, none⟩ = some (.int .u32 i) := hO.cell 5 rfl 1 rfl
  have c9_5_2 : V3.cell? ⟨td, 2, none⟩ = some (.bool false) := hO.cell 5 rfl 2 rfl
  have c9_5_3 : V3.cell? ⟨td, 3, none⟩ = some (.bool false) := hO.cell 5 rfl 3 rfl
  have c9_5_4 : V3.cell? ⟨td, 4, none⟩ = some (.bool false) := hO.cell 5 rfl 4 rfl
  have lt9_5 : td < V3.heap.size := hO.lt 5 rfl
  have y9_5 : ∀ o, V3.frozen? ⟨td, o, none⟩ = false := hO.free 5 rfl
  have c9_6_0 : V3.cell? ⟨tg, 0, none⟩ = some (.int .u32 s) := hO.cell 6 rfl 0 rfl
  have c9_6_1 : V3.cell? ⟨tg, 1, none⟩ = some (.int .u32 i) := hO.cell 6 rfl 1 rfl
  have c9_6_2 : V3.cell? ⟨tg, 2, none⟩ = some (.bool false) := hO.cell 6 rfl 2 rfl
  have c9_6_3 : V3.cell? ⟨tg, 3, none⟩ = some (.bool false) := hO.cell 6 rfl 3 rfl
  have c9_6_4 : V3.cell? ⟨tg, 4, none⟩ = some (.bool false) := hO.cell 6 rfl 4 rfl
  have lt9_6 : tg < V3.heap.size := hO.lt 6 rfl
  have y9_6 : ∀ o, V3.frozen? ⟨tg, o, none⟩ = false := hO.free 6 rfl
  have HO := Lib.hid hO
  clear hO
  go_wp2_with (go_at_call 32; go_in)
  have hO := HO.out
  clear HO pl9_0 pl9_1 pl9_2 pl9_3 pl9_4 pl9_5 pl9_6 ne9_0_2 ne9_2_0 ne9_3_4 ne9_4_3 ne9_5_6 ne9_6_5 c9_0_0 c9_0_1 lt9_0 y9_0 c9_1_0 c9_1_1 lt9_1 y9_1 c9_2_0 c9_2_1 lt9_2 y9_2 c9_3_0 c9_3_1 c9_3_2 c9_3_3 c9_3_4 c9_3_5 c9_3_6 c9_3_7 lt9_3 y9_3 c9_4_0 c9_4_1 c9_4_2 c9_4_3 c9_4_4 c9_4_5 c9_4_6 c9_4_7 lt9_4 y9_4 c9_5_0 c9_5_1 c9_5_2 c9_5_3 c9_5_4 lt9_5 y9_5 c9_6_0 c9_6_1 c9_6_2 c9_6_3 c9_6_4 lt9_6 y9_6
  refine bodyPost_ret (v := .pointer (some ⟨d, 0, none⟩)) ?_ rfl ⟨rfl, hO.sub [3, 4, 5, 6] (by decide)⟩
  simp [results, Tryd.results33, go_sem]
end Go.Proofs.YtlgefnjkoklboaaDoor.Use
