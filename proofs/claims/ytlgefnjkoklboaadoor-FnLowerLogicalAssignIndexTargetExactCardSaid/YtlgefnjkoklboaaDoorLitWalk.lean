/- The law on nullish coalescing with a number on the left, walked. No condition. -/
import Derived.Test.YtlgefnjkoklboaaDoorTotal
import Derived.Test.YtlgefnjkoklboaaDoorLowNum
import Derived.Laws.FloatArith
import Derived.Test.YtlgefnjkoklboaaDoorDeepCells
namespace Go.Proofs.YtlgefnjkoklboaaDoor.l131
open Go.ChangeShapes Go.WideShapes Go.ChangeAt Go.RowKit Go.Sort
set_option linter.unusedVariables false
/-- One over a zero is an infinity, equal to itself. -/
theorem oneOver (v : Nat) (h : (FloatKind.f64.format.order v 0 == some Ordering.eq) = true) : ∃ r, FloatKind.f64.format.div 4607182418800017408 v = some r ∧ FloatKind.f64.format.order r r = some Ordering.eq := by
  have h' : FloatKind.f64.format.order v 0 = some Ordering.eq := by simpa using h
  have e0 : FloatKind.f64.format.read 0 = .number false 0 FloatKind.f64.format.leastPlace := by decide +kernel
  have e1 : FloatKind.f64.format.read 4607182418800017408 = .number false 4503599627370496 (-52) := by decide +kernel
  unfold Ieee.Format.order at h'
  rw [e0] at h'
  unfold Ieee.Format.div
  rw [e1]
  generalize FloatKind.f64.format.read v = d at h'
  cases d with
  | nan s t => simp [Ieee.Datum.order] at h'
  | infinity s => cases s <;> simp [Ieee.Datum.order] at h'
  | number s m i =>
    have hm : m = 0 := by
      simp only [Ieee.Datum.order, Option.some.injEq] at h'
      have h2 := Int.compare_eq_eq.1 h'
      cases s <;> simp [Ieee.signed, Nat.shiftLeft_eq] at h2
      all_goals
        rcases Int.mul_eq_zero.1 h2 with h | h
        · omega
        · exact absurd h (Int.ne_of_gt (Int.pow_pos (by decide)))
    subst hm
    refine ⟨FloatKind.f64.format.write (.infinity (false ^^ s)), by simp [Ieee.Datum.quotient], ?_⟩
    cases s <;> decide +kernel
set_option maxRecDepth 100000 in
theorem sameFloat (v : Nat) (w : World) : Calls Tryd.prog 16 #[.float .f64 v, .float .f64 v] w fun e w' => e = .returned (.bool true) ∧ w = w' := by
  go_enter Tryd.func16, Tryd.ntmps16
  by_cases hz : (FloatKind.f64.format.order v 0 == some Ordering.eq) = true
  · obtain ⟨r, h1, h2⟩ := oneOver v hz
    have hr : ∀ w : World, (binOp .quo 22 (.float .f64 4607182418800017408) (.float .f64 v)).run Tryd.prog w = .ok (.float .f64 r) w := fun w => run_float_arith w .quo 22 .f64 _ _ r h1
    go_wp2
    all_goals (go_returns; exact ⟨rfl, rfl⟩)
  · have hz' : (FloatKind.f64.format.order v 0 == some Ordering.eq) = false := by simpa using hz
    go_wp2
    all_goals (go_returns; exact ⟨rfl, rfl⟩)

set_option maxRecDepth 100000 in
set_option maxHeartbeats 1000000 in
theorem low13 (pb nb : Nat) (loc l0 lr : Int) (v : Nat) (rT : TypeId) (rb : Nat) (w : World) (h2 : w.cell? ⟨nb, 0, none⟩ = some (.float .f64 v)) :
    Calls Tryd.prog 13 #[.pointer (some ⟨pb, 0, none⟩), .agg #[.int .i32 loc], .agg #[.iface 36 (.pointer (some ⟨nb, 0, none⟩)), .int .i32 l0], .agg #[.iface rT (.pointer (some ⟨rb, 0, none⟩)), .int .i32 lr]] w
      (LowNum loc lr v rT rb w) := by
  have k2 := Base.block_of_cell h2
  go_enter Tryd.func13, Tryd.ntmps13
  go_wp2_with fail
  generalize hW : World.alloc _ _ = W
  have hbW : Below w.heap.size w W := by rw [← hW]; go_grown
  have cl : W.cell? ⟨nb, 0, none⟩ = some (.float .f64 v) := Base.cell_below hbW k2 h2
  have rr : Base.RowAt W (w.heap.size + 1 + 1 + 1) 34 #[.nilIface, .int .i32 0] := by
    rw [← hW]
    exact Base.RowAt.new' _ _ _ _ (by simp)
  clear hW
  refine Calls.mono (lowNum pb _ loc l0 lr v rT rb _ cl) ?_
  rintro e w2 ⟨bi, bt, b1, b2, bn, rfl, hb2, hbi, hbt, hbb1, hb12, hbn, r1, r2, r3, r4, r5⟩
  have hlt := rr.lt
  have rr2 := rr.below hb2 hlt
  have o0 := rr2.cell (i := 0) rfl
  have o1 := rr2.cell (i := 1) rfl
  have o2 := rr2.free 0
  have o3 := rr2.free 1
  have hRR := Lib.hid rr2
  have hbw : Below w.heap.size w w2 := hbW.trans (hb2.mono hbW.size)
  have hsz := hbW.size
  have H0 := Lib.hid hbw
  have H1 := Lib.hid r1
  have H2 := Lib.hid r2
  have H3 := Lib.hid r3
  have H4 := Lib.hid r4
  have H5 := Lib.hid r5
  clear rr rr2 r1 r2 r3 r4 r5 hbw hb2 hbW cl h2
  go_wp2
  generalize hV : World.setCell _ _ _ = V
  have rv : Base.RowAt V (w.heap.size + 1 + 1 + 1) 34 #[.iface 39 (.pointer (some ⟨bi, 0, none⟩)), .int .i32 loc] := by
    rw [← hV]
    exact (hRR.out.set 0 _).set 1 _
  have hbV : Below w.heap.size w V := by
    rw [← hV]
    exact (H0.out.setCell (show _ ≤ w.heap.size + 1 + 1 + 1 by omega) _).setCell (show _ ≤ w.heap.size + 1 + 1 + 1 by omega) _
  have g : ∀ {b : Nat} {t : TypeId} {c : Array Value}, W.heap.size ≤ b → Base.RowAt w2 b t c → Base.RowAt V b t c := fun {b} {t} {c} hb h => by
    rw [← hV]
    exact (h.setOther (show b ≠ w.heap.size + 1 + 1 + 1 by omega) _).setOther (show b ≠ w.heap.size + 1 + 1 + 1 by omega) _
  clear hV
  have z0 := rv.cell (i := 0) rfl
  have z1 := rv.cell (i := 1) rfl
  refine bodyPost_ret (v := .agg #[.iface 39 (.pointer (some ⟨bi, 0, none⟩)), .int .i32 loc]) ?_ rfl ?_
  · simp [results, Tryd.results13, go_sem, z0, z1]
  · exact ⟨bi, bt, b1, b2, bn, rfl, hbV, by omega, by omega, by omega, hb12, by omega, g hbi H1.out, g hbt H2.out, g hbb1 H3.out, g (by omega) H4.out, g hbn H5.out⟩
set_option maxRecDepth 100000 in
set_option maxHeartbeats 1000000 in
theorem law15 (lv : Nat) (ll loc rl : Int) (v : Nat) (w : World) : Calls Tryd.prog 3 #[.float .f64 lv, .int .i32 ll, .int .i32 loc, .int .i32 rl, .float .f64 v] w fun e w' => e = .returned (.bool true) ∧ Below w.heap.size w w' := by
  go_enter Tryd.func3, Tryd.ntmps3
  go_wp2_with fail
  refine Calls.mono (newParser 0 1 (by omega) 0 0 _) ?_
  rintro e w1 ⟨pb, sb, mb, rfl, hb1, hsb, hmb, hsp, hmp, rp, rs, rm⟩
  have hp : w1.cell? ⟨pb, 106, none⟩ = some (.slice (some ⟨sb, 0, none⟩) 1 1) := rp.cell (by kernel_rfl)
  have hs : w1.cell? ⟨sb, 4, none⟩ = some (.int .u32 0) := rs.cell (by kernel_rfl)
  have hpl := rp.lt
  clear rp rs rm
  go_wp2_with (first | (go_at_call 11; go_in) | (go_at_call 12; go_in))
  generalize hW : World.alloc _ _ = W
  have hbW : Below w1.heap.size w1 W := by rw [← hW]; go_grown
  have cl : W.cell? ⟨w1.heap.size + 1 + 1, 0, none⟩ = some (.float .f64 lv) := by rw [← hW]; simp [go_sem]
  have rL : Base.RowAt W (w1.heap.size + 1 + 1) 50 #[.float .f64 lv] := by
    rw [← hW]
    repeat (first | exact Base.RowAt.new' _ _ _ _ (by simp) | refine Base.RowAt.alloc ?_ _)
  have hWs : w1.heap.size + 7 < W.heap.size := by rw [← hW]; simp
  have hp' : W.cell? ⟨pb, 106, none⟩ = some (.slice (some ⟨sb, 0, none⟩) 1 1) := Base.cell_below hbW hpl hp
  have hs' : W.cell? ⟨sb, 4, none⟩ = some (.int .u32 0) := Base.cell_below hbW (show sb < _ by omega) hs
  clear hW hp hs
  refine Calls.mono (low13 pb _ loc ll rl lv 36 _ _ cl) ?_
  rintro e w2 ⟨bi, bt, b1, b2, bn, rfl, hb2, hbi, hbt, hbb1, hb12, hbn, r1, r2, r3, r4, r5⟩
  have x0 : w2.cell? ⟨bi, 0, none⟩ = some (.iface 41 (.pointer (some ⟨bt, 0, none⟩))) := r1.cell rfl
  have x1 : w2.cell? ⟨bi, 1, none⟩ = some (.int .i32 loc) := r1.cell rfl
  have x2 : w2.cell? ⟨bi, 2, none⟩ = some (.iface 36 (.pointer (some ⟨b2, 0, none⟩))) := r1.cell rfl
  have x3 : w2.cell? ⟨bi, 3, none⟩ = some (.int .i32 loc) := r1.cell rfl
  have x4 : w2.cell? ⟨bi, 4, none⟩ = some (.iface 36 (.pointer (some ⟨w1.heap.size + 1 + 1 + 1 + 1 + 1 + 1, 0, none⟩))) := r1.cell rfl
  have x5 : w2.cell? ⟨bi, 5, none⟩ = some (.int .i32 rl) := r1.cell rfl
  have y0 : w2.cell? ⟨bt, 0, none⟩ = some (.iface 36 (.pointer (some ⟨b1, 0, none⟩))) := r2.cell rfl
  have y1 : w2.cell? ⟨bt, 1, none⟩ = some (.int .i32 loc) := r2.cell rfl
  have y2 : w2.cell? ⟨bt, 2, none⟩ = some (.iface 211 (.pointer (some ⟨bn, 0, none⟩))) := r2.cell rfl
  have y3 : w2.cell? ⟨bt, 3, none⟩ = some (.int .i32 loc) := r2.cell rfl
  have y4 : w2.cell? ⟨bt, 4, none⟩ = some (.int .u8 27) := r2.cell rfl
  have z3 : w2.cell? ⟨b1, 0, none⟩ = some (.float .f64 lv) := r3.cell rfl
  have z4 : w2.cell? ⟨b2, 0, none⟩ = some (.float .f64 lv) := r4.cell rfl
  have l1 := r1.lt
  have l2 := r2.lt
  have l3 := r3.lt
  have l4 := r4.lt
  have l5 := r5.lt
  have hp2 : w2.cell? ⟨pb, 106, none⟩ = some (.slice (some ⟨sb, 0, none⟩) 1 1) := Base.cell_below hb2 (show pb < _ by omega) hp'
  have hs2 : w2.cell? ⟨sb, 4, none⟩ = some (.int .u32 0) := Base.cell_below hb2 (show sb < _ by omega) hs'
  have pL := (rL.below hb2 rL.lt).plain
  have p1 := r3.plain
  have p2 := r4.plain
  have n12 : ¬ b1 = b2 := by omega
  have n1L : ¬ b1 = w1.heap.size + 1 + 1 := by omega
  have n2L : ¬ b2 = w1.heap.size + 1 + 1 := by omega
  clear rL
  have hbw : Below w.heap.size w w2 := hb1.trans ((hbW.mono hb1.size).trans (hb2.mono (Nat.le_trans hb1.size hbW.size)))
  have H0 := Lib.hid hbw
  clear r1 r2 r3 r4 r5 hbw hb2 hbW hb1 hp' hs' cl
  go_wp2_with (first | (go_at_call 16; refine Calls.mono (sameFloat lv _) ?_; rintro e w3 ⟨rfl, rfl⟩) | (go_at_call 14; go_in) | (go_at_call 15; go_in) | (go_at_call 12; go_in) | (go_at_call 17; go_in))
  refine Calls.mono (total pb sb 1 (fun _ => 0) _ (by omega) (by simp [go_sem, hp2]) (Lib.hid fun i hi => ?_) (Lib.hid fun i hi => Nat.zero_le _)) ?_
  · obtain rfl : i = 0 := by omega
    simp [go_sem, hs2]
  rintro e w3 ⟨rfl, rfl⟩
  go_wp2
  go_returns
  refine ⟨rfl, ?_⟩
  have hbw := H0.out
  go_grown
end Go.Proofs.YtlgefnjkoklboaaDoor.l131
