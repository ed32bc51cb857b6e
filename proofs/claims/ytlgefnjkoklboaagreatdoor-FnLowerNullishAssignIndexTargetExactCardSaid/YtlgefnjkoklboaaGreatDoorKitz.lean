/- Counts, small helpers of the laws, a fresh copy of an index expression. No condition. -/
import Derived.Test.YtlgefnjkoklboaaGreatDoorTotal
import Derived.Test.YtlgefnjkoklboaaGreatDoorDeepCells
import Derived.Test.YtlgefnjkoklboaaGreatDoorUse
import Derived.Laws.FloatArith
import Derived.Lib.QuietBelow
namespace Go.Proofs.YtlgefnjkoklboaaGreatDoor.Base
theorem row_ne_type {w : World} {a b : Nat} {T T' : TypeId} {c c' : Array Value} (h : RowAt w a T c) (k : RowAt w b T' c') (hT : T ≠ T') (e : a = b) : False := by
  subst e
  have := h.symm.trans k
  simp at this
  exact hT this.2
theorem row_ne_cells {w : World} {a b : Nat} {T T' : TypeId} {c c' : Array Value} (h : RowAt w a T c) (k : RowAt w b T' c') (hc : c ≠ c') (e : a = b) : False := by
  subst e
  have := h.symm.trans k
  simp at this
  exact hc this.1
end Go.Proofs.YtlgefnjkoklboaaGreatDoor.Base
namespace Go.Proofs.YtlgefnjkoklboaaGreatDoor.l131
open Go.ChangeShapes Go.WideShapes Go.ChangeAt Go.RowKit Go.Sort
set_option linter.unusedVariables false
theorem oneOver (v : Nat) (h : (FloatKind.f64.format.order v 0 == some Ordering.eq) = true) : ∃ r, FloatKind.f64.format.div 4607182418800017408 v = some r ∧ FloatKind.f64.format.order r r = some Ordering.eq := by
  have h' : FloatKind.f64.format.order v 0 = some Ordering.eq := by simpa using h
  have e0 : FloatKind.f64.format.read 0 = .number false 0 FloatKind.f64.format.leastPlace := by decide +kernel
  have e1 : FloatKind.f64.format.read 4607182418800017408 = .number false 4503599627370496 (-52) := by decide +kernel
  unfold Ieee.Format.order at h'
  rw [e0] at h'
  unfold Ieee.Format.div
  rw [e1]
  generalize FloatKind.f64.format.read v = d at h'
  cases d with
  | nan s t => simp [Ieee.Datum.order] at h'
  | infinity s => cases s <;> simp [Ieee.Datum.order] at h'
  | number s m i =>
    have hm : m = 0 := by
      simp only [Ieee.Datum.order, Option.some.injEq] at h'
      have h2 := Int.compare_eq_eq.1 h'
      cases s <;> simp [Ieee.signed, Nat.shiftLeft_eq] at h2
      all_goals
        rcases Int.mul_eq_zero.1 h2 with h | h
        · omega
        · exact absurd h (Int.ne_of_gt (Int.pow_pos (by decide)))
    subst hm
    refine ⟨FloatKind.f64.format.write (.infinity (false ^^ s)), by simp [Ieee.Datum.quotient], ?_⟩
    cases s <;> decide +kernel
set_option maxRecDepth 100000 in
theorem sameFloat (v : Nat) (w : World) : Calls Tryz.prog 19 #[.float .f64 v, .float .f64 v] w fun e w' => e = .returned (.bool true) ∧ w = w' := by
  go_enter Tryz.func19, Tryz.ntmps19
  by_cases hz : (FloatKind.f64.format.order v 0 == some Ordering.eq) = true
  · obtain ⟨r, h1, h2⟩ := oneOver v hz
    have hr : ∀ w : World, (binOp .quo 24 (.float .f64 4607182418800017408) (.float .f64 v)).run Tryz.prog w = .ok (.float .f64 r) w := fun w => run_float_arith w .quo 24 .f64 _ _ r h1
    go_wp2
    all_goals (go_returns; exact ⟨rfl, rfl⟩)
  · have hz' : (FloatKind.f64.format.order v 0 == some Ordering.eq) = false := by simpa using hz
    go_wp2
    all_goals (go_returns; exact ⟨rfl, rfl⟩)


end Go.Proofs.YtlgefnjkoklboaaGreatDoor.l131
namespace Go.Proofs.YtlgefnjkoklboaaGreatDoor.Use
open Go.ChangeShapes Go.WideShapes Go.ChangeAt Go.RowKit Go.Sort
set_option linter.unusedVariables false
/-- The first n symbols of a table have these counts. -/
def Cnt (C : Array Value) (n : Nat) (uc : Nat → Nat) : Prop := C.size = n * 10 ∧ ∀ j, j < n → C[j * 10 + 4]? = some (.int .u32 (uc j : Int))
def bump (uc : Nat → Nat) (i : Nat) : Nat → Nat := fun j => if j = i then uc j + 1 else uc j
theorem Cnt.made {z : Array Value} (n : Nat) (hz : z.size = 10) (h4 : z[4]! = .int .u32 0) : Cnt (madeCells z (n * 10)) n (fun _ => 0) := by
  refine ⟨size_madeCells _ _, fun j hj => ?_⟩
  have h : j * 10 + 4 < n * 10 := by omega
  have hm : (j * 10 + 4) % 10 = 4 := by omega
  simp only [madeCells, Array.getElem?_map, Array.getElem?_range, h, if_true, Option.map_some, hz, hm, h4]
  rfl
theorem Cnt.set {C : Array Value} {n i : Nat} {uc : Nat → Nat} (h : Cnt C n uc) (hi : i < n) : Cnt (C.setIfInBounds (i * 10 + 4) (.int .u32 ((uc i + 1 : Nat) : Int))) n (bump uc i) := by
  refine ⟨by simp [h.1], fun j hj => ?_⟩
  rw [Array.getElem?_setIfInBounds]
  unfold bump
  by_cases e : j = i
  · subst e
    have := h.1
    rw [if_pos rfl, if_pos (by omega), if_pos rfl]
  · rw [if_neg (by omega), if_neg e]
    exact h.2 j hj
theorem Cnt.cells {C : Array Value} {n : Nat} {uc : Nat → Nat} (h : Cnt C n uc) {w : World} {sb : Nat} (hr : Base.RowAt w sb 196 C) : ∀ j, j < n → w.cell? ⟨sb, j * 10 + 4, none⟩ = some (.int .u32 (uc j : Int)) :=
  fun j hj => hr.cell (h.2 j hj)
theorem sum_zero (n : Nat) : l131.sumTo (fun _ => 0) n = 0 := by induction n with
  | zero => rfl
  | succ n ih => simp [l131.sumTo, ih]
theorem sum_bump (uc : Nat → Nat) (i : Nat) : ∀ n, l131.sumTo (bump uc i) n = l131.sumTo uc n + if i < n then 1 else 0
  | 0 => by simp [l131.sumTo]
  | n + 1 => by
    simp only [l131.sumTo, sum_bump uc i n]
    unfold bump
    by_cases e : n = i
    · subst e
      rw [if_pos rfl, if_neg (by omega), if_pos (by omega)]
      omega
    · rw [if_neg e]
      by_cases h : i < n
      · rw [if_pos h, if_pos (by omega)]; omega
      · rw [if_neg h, if_neg (by omega)]; omega
theorem plain_regrown {w : World} {b : Nat} (h : Base.plainAt w b = true) (d : Nat) (os : Array Obj) : Base.plainAt (grow (redrawn w d) os) b = true :=
  Base.plainAt_below (below_regrown w d os) (Base.plain_lt h) h
theorem asIdent (b : Nat) (l : Int) (w : World) : Calls Tryz.prog 15 #[.agg #[.iface 52 (.pointer (some ⟨b, 0, none⟩)), .int .i32 l]] w fun e w' => e = .returned (.pointer (some ⟨b, 0, none⟩)) ∧ Below w.heap.size w w' := by
  go_enter Tryz.func15, Tryz.ntmps15
  go_wp2
  go_returns
  exact ⟨rfl, by go_grown⟩
theorem asNumber (b : Nat) (l : Int) (w : World) : Calls Tryz.prog 9 #[.agg #[.iface 40 (.pointer (some ⟨b, 0, none⟩)), .int .i32 l]] w fun e w' => e = .returned (.pointer (some ⟨b, 0, none⟩)) ∧ Below w.heap.size w w' := by
  go_enter Tryz.func9, Tryz.ntmps9
  go_wp2
  go_returns
  exact ⟨rfl, by go_grown⟩
theorem asIndex (b : Nat) (l : Int) (w : World) : Calls Tryz.prog 8 #[.agg #[.iface 38 (.pointer (some ⟨b, 0, none⟩)), .int .i32 l]] w fun e w' => e = .returned (.pointer (some ⟨b, 0, none⟩)) ∧ Below w.heap.size w w' := by
  go_enter Tryz.func8, Tryz.ntmps8
  go_wp2
  go_returns
  exact ⟨rfl, by go_grown⟩
set_option maxRecDepth 100000 in
set_option maxHeartbeats 1000000 in
theorem identIs (b : Nat) (loc src inner : Int) (w : World) (c0 : w.cell? ⟨b, 0, none⟩ = some (.int .u32 src)) (c1 : w.cell? ⟨b, 1, none⟩ = some (.int .u32 inner)) :
    Calls Tryz.prog 18 #[.agg #[.iface 52 (.pointer (some ⟨b, 0, none⟩)), .int .i32 loc], .int .i32 loc, .agg #[.int .u32 src, .int .u32 inner]] w fun e w' => e = .returned (.bool true) ∧ Below w.heap.size w w' := by
  have hb := Base.block_of_cell c0
  obtain ⟨b1, b2, b3, b4, b5, b6, b7, b8, b9, b10, b11, b12⟩ := Base.lts hb
  go_enter Tryz.func18, Tryz.ntmps18
  go_wp2_with (go_at_call 15; go_in)
  generalize hW : World.alloc _ _ = W
  have hbel : Below w.heap.size w W := by rw [← hW]; go_grown
  have r0 : Base.RowAt W (w.heap.size) 34 #[.iface 52 (.pointer (some ⟨b, 0, none⟩)), .int .i32 loc] := by
    rw [← hW]
    exact (((Base.RowAt.new' _ _ _ _ (by simp)).alloc _).alloc _)
  have r1 : Base.RowAt W (w.heap.size + 1) 28 #[.int .u32 src, .int .u32 inner] := by
    rw [← hW]
    exact ((Base.RowAt.new' _ _ _ _ (by simp)).alloc _)
  clear hW
  have c0 := Base.cell_below hbel hb c0
  have c1 := Base.cell_below hbel hb c1
  have d0 : W.cell? ⟨w.heap.size, 1, none⟩ = some (.int .i32 loc) := r0.cell rfl
  have d1 : W.cell? ⟨w.heap.size + 1, 0, none⟩ = some (.int .u32 src) := r1.cell rfl
  have d2 : W.cell? ⟨w.heap.size + 1, 1, none⟩ = some (.int .u32 inner) := r1.cell rfl
  have kq0 := cell_regrown (c0)
  have kq1 := cell_regrown (c1)
  have kq2 := cell_regrown (d0)
  have kq3 := cell_regrown (d1)
  have kq4 := cell_regrown (d2)
  refine wp_region_quiet_below (by kernel_rfl) (by kernel_rfl) ?_
  repeat (quiet_step (fail))
  refine wpQuiet_nil ?_
  intro _ hw'
  obtain ⟨⟨dq, osq⟩, hw''⟩ := hw'
  subst hw''
  go_wp2
  go_returns
  exact ⟨rfl, hbel.trans ((below_regrown W dq osq).mono hbel.size)⟩
theorem total1 (pb sb n : Nat) (uc : Nat → Nat) (t : Nat) (w : World) (hn : n ≤ 65537) (hp : w.cell? ⟨pb, 106, none⟩ = some (.slice (some ⟨sb, 0, none⟩) n n))
    (hs : Hid (∀ i, i < n → w.cell? ⟨sb, i * 10 + 4, none⟩ = some (.int .u32 (uc i)))) (hu : Hid (∀ i, i < n → uc i ≤ 4294967295)) (ht : l131.sumTo uc n = t) :
    Calls Tryz.prog 12 #[.pointer (some ⟨pb, 0, none⟩), .int .i64 (n : Int)] w fun e w' => e = .returned (.int .u64 (t : Int)) ∧ w = w' := by
  subst ht
  exact l131.total pb sb n uc w hn hp hs hu
theorem parAt {w : World} {pb : Nat} {x : Int} {mb sb n : Nat} (h : Base.RowAt w pb 178 (l131.parserCells Tryz.prog x (.slice (some ⟨sb, 0, none⟩) n n) (.map (some mb)))) : ParAt w pb sb n n ∧ w.cell? ⟨pb, 23, none⟩ = some (.int .u64 x) ∧ w.cell? ⟨pb, 117, none⟩ = some (.map (some mb)) := by
  exact ⟨⟨h.cell (by kernel_rfl), h.cell (by kernel_rfl), h.cell (by kernel_rfl), h.cell (by kernel_rfl)⟩, h.cell (by kernel_rfl), h.cell (by kernel_rfl)⟩
theorem u32r {a : Int} (h : (Lit.int .u32 a).wf = true) : 0 ≤ a ∧ a ≤ 4294967295 := by
  unfold Lit.wf at h
  rw [Bool.and_eq_true, decide_eq_true_eq, decide_eq_true_eq] at h
  exact h
theorem Cnt.set' {C : Array Value} {n i c : Nat} {uc : Nat → Nat} (h : Cnt C n uc) (hi : i < n) (hc : uc i = c) : Cnt (C.setIfInBounds (i * 10 + 4) (.int .u32 ((c + 1 : Nat) : Int))) n (bump uc i) := by
  subst hc
  exact h.set hi
set_option maxRecDepth 100000 in
theorem noPriv (p : Value) (T b : Nat) (l : Int) (w : World) (hT : T ≠ 38) :
    Calls Tryz.prog 20 #[p, .agg #[.iface T (.pointer (some ⟨b, 0, none⟩)), .int .i32 l]] w fun e w' => e = .returned (.tuple #[.agg #[.nilIface, .int .i32 0], .agg #[.int .i32 0], .pointer none]) ∧ Below w.heap.size w w' := by
  go_enter Tryz.func20, Tryz.ntmps20
  go_wp2
  all_goals (go_returns; exact ⟨rfl, by go_grown⟩)
set_option maxRecDepth 100000 in
theorem noPrivIx (p : Value) (b j : Nat) (l l' : Int) (w : World) (h : w.cell? ⟨b, 2, none⟩ = some (.iface 40 (.pointer (some ⟨j, 0, none⟩)))) :
    Calls Tryz.prog 20 #[p, .agg #[.iface 38 (.pointer (some ⟨b, 0, none⟩)), .int .i32 l]] w fun e w' => e = .returned (.tuple #[.agg #[.nilIface, .int .i32 0], .agg #[.int .i32 0], .pointer none]) ∧ Below w.heap.size w w' := by
  have lb := Base.block_of_cell h
  go_enter Tryz.func20, Tryz.ntmps20
  go_wp2
  all_goals (go_returns; exact ⟨rfl, by go_grown⟩)
set_option maxRecDepth 100000 in
set_option maxHeartbeats 2000000 in
theorem indexCopy (x i1 m1 ob ib nb v : Nat) (ll src inner tl il : Int) (w : World)
    (x0 : w.cell? ⟨x, 0, none⟩ = some (.iface 52 (.pointer (some ⟨i1, 0, none⟩)))) (x1 : w.cell? ⟨x, 1, none⟩ = some (.int .i32 ll)) (x2 : w.cell? ⟨x, 2, none⟩ = some (.iface 40 (.pointer (some ⟨m1, 0, none⟩)))) (x3 : w.cell? ⟨x, 3, none⟩ = some (.int .i32 ll)) (x5 : w.cell? ⟨x, 5, none⟩ = some (.int .u8 0))
    (p0 : w.cell? ⟨i1, 0, none⟩ = some (.int .u32 src)) (p1 : w.cell? ⟨i1, 1, none⟩ = some (.int .u32 inner)) (m0 : w.cell? ⟨m1, 0, none⟩ = some (.float .f64 v))
    (o0 : w.cell? ⟨ob, 0, none⟩ = some (.iface 52 (.pointer (some ⟨ib, 0, none⟩)))) (o1 : w.cell? ⟨ob, 1, none⟩ = some (.int .i32 tl)) (o2 : w.cell? ⟨ob, 2, none⟩ = some (.iface 40 (.pointer (some ⟨nb, 0, none⟩)))) (o3 : w.cell? ⟨ob, 3, none⟩ = some (.int .i32 il))
    (px : Base.plainAt w x = true) (po : Base.plainAt w ob = true) (pi : Base.plainAt w i1 = true) (pj : Base.plainAt w ib = true) (pm : Base.plainAt w m1 = true) (pn : Base.plainAt w nb = true)
    (nx : ¬ x = ob) (ni : ¬ i1 = ib) (nm : ¬ m1 = nb) :
    Calls Tryz.prog 14 #[.agg #[.iface 38 (.pointer (some ⟨x, 0, none⟩)), .int .i32 ll], .int .i32 ll, .agg #[.int .u32 src, .int .u32 inner], .float .f64 v, .pointer (some ⟨ob, 0, none⟩)] w fun e w' => e = .returned (.pointer (some ⟨x, 0, none⟩)) ∧ Below w.heap.size w w' := by
  go_enter Tryz.func14, Tryz.ntmps14
  go_wp2_with (first | (go_at_call 8; go_in) | (go_at_call 15; go_in) | (go_at_call 9; go_in))
  generalize hW : World.alloc _ _ = W
  have hbW : Below w.heap.size w W := by rw [← hW]; go_grown
  have hz : w.heap.size + 3 ≤ W.heap.size := by rw [← hW]; simp <;> omega
  have r1 : Base.RowAt W (w.heap.size + 1) 28 #[.int .u32 src, .int .u32 inner] := by
    rw [← hW]
    exact ((Base.RowAt.new' _ _ _ _ (by simp)).alloc _)
  clear hW
  have x0 := Base.cell_below hbW (Base.block_of_cell x0) x0
  have x1 := Base.cell_below hbW (Base.block_of_cell x1) x1
  have x2 := Base.cell_below hbW (Base.block_of_cell x2) x2
  have x3 := Base.cell_below hbW (Base.block_of_cell x3) x3
  have p0 := Base.cell_below hbW (Base.block_of_cell p0) p0
  have p1 := Base.cell_below hbW (Base.block_of_cell p1) p1
  have m0 := Base.cell_below hbW (Base.block_of_cell m0) m0
  have o0 := Base.cell_below hbW (Base.block_of_cell o0) o0
  have o1 := Base.cell_below hbW (Base.block_of_cell o1) o1
  have o2 := Base.cell_below hbW (Base.block_of_cell o2) o2
  have o3 := Base.cell_below hbW (Base.block_of_cell o3) o3
  have px := Base.plainAt_below hbW (Base.plain_lt px) px
  have po := Base.plainAt_below hbW (Base.plain_lt po) po
  have pi := Base.plainAt_below hbW (Base.plain_lt pi) pi
  have pj := Base.plainAt_below hbW (Base.plain_lt pj) pj
  have pm := Base.plainAt_below hbW (Base.plain_lt pm) pm
  have pn := Base.plainAt_below hbW (Base.plain_lt pn) pn
  have rf0 : W.cell? ⟨w.heap.size + 1, 0, none⟩ = some (.int .u32 src) := r1.cell rfl
  have rf1 : W.cell? ⟨w.heap.size + 1, 1, none⟩ = some (.int .u32 inner) := r1.cell rfl
  have kq0 := cell_regrown (x0)
  have kq1 := cell_regrown (x1)
  have kq2 := cell_regrown (p0)
  have kq3 := cell_regrown (p1)
  have kq4 := cell_regrown (o0)
  have kq5 := cell_regrown (o1)
  have kq6 := cell_regrown (rf0)
  have kq7 := cell_regrown (rf1)
  have kp8 := plain_regrown pi
  have kp9 := plain_regrown pj
  refine wp_region_quiet_below (by kernel_rfl) (by kernel_rfl) ?_
  repeat (quiet_step (first | (go_at_call 18; exact Calls.regrown_of (identIs _ _ _ _ _ (kq2 _ _) (kq3 _ _))) | (go_at_call 15; exact Calls.regrown_of (asIdent _ _ _))))
  refine wpQuiet_nil ?_
  intro _ hw'
  obtain ⟨⟨dq, osq⟩, hw''⟩ := hw'
  subst hw''
  have hbY := below_regrown W dq osq
  have x2 := Base.cell_below hbY (Base.block_of_cell x2) x2
  have x3 := Base.cell_below hbY (Base.block_of_cell x3) x3
  have m0 := Base.cell_below hbY (Base.block_of_cell m0) m0
  have o2 := Base.cell_below hbY (Base.block_of_cell o2) o2
  have o3 := Base.cell_below hbY (Base.block_of_cell o3) o3
  have pm := Base.plainAt_below hbY (Base.plain_lt pm) pm
  have pn := Base.plainAt_below hbY (Base.plain_lt pn) pn
  have H0 := Lib.hid (hbW.trans (hbY.mono hbW.size))
  generalize grow (redrawn W dq) osq = V at *
  clear hbY hbW
  go_wp2_with (first | (go_at_call 19; refine Calls.mono (l131.sameFloat v _) ?_; rintro e w3 ⟨rfl, rfl⟩) | (go_at_call 9; go_in))
  go_returns
  refine ⟨rfl, ?_⟩
  have hbw := H0.out
  have hs9 := hbw.size
  go_grown
  all_goals (simp <;> omega)
end Go.Proofs.YtlgefnjkoklboaaGreatDoor.Use
