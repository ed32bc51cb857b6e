/- The law that an assignment's lowering refuses what is no target, walked. No condition. -/
import Derived.Test.YtmefnjmohehdbaaDoorRRRows
import Derived.Test.YtmefnjmohehdbaaDoorRRDeepCells
import Derived.Test.YtmefnjmohehdbaaDoorRRKept
import Derived.LaidEql
import Derived.BigQuiet
import Derived.Deep.QuietTactic
namespace Go.Proofs.YtmefnjmohehdbaaDoorRR.l179
open Go.ChangeShapes Go.WideShapes Go.ChangeAt Go.RowKit Go.Sort
set_option linter.unusedVariables false
def pCells (P : Program) (x : Int) : Array Value := Base.builtOf P 179 [(0, .agg (Base.builtOf P 94 [(7, .agg (Base.builtOf P 81 [(2, .int .u64 x)]))]))]
/-- An interface value that holds a pointer, held against itself. -/
theorem eqSame (T te : TypeId) (hp : Tryd.prog.underlying T = some (.pointer te)) (hc : ((Tryd.prog.info? T).map (·.comparable)) = some true) (he : (Tryd.prog.info? te).isSome = true) (a : Addr) (w : World) :
    (binOp .eql 35 (.iface T (.pointer (some a))) (.iface T (.pointer (some a)))).run Tryd.prog w = .ok (.bool true) w := by
  obtain ⟨i, hi, hic⟩ := Option.map_eq_some_iff.1 hc
  obtain ⟨j, hj⟩ := Option.isSome_iff_exists.1 he
  exact run_eql_iface_ptr_same w a Tryd.underlying35 hp hi hic hj
set_option maxRecDepth 100000 in
theorem newPar (x : Int) (w : World) : Calls Tryd.prog 11 #[.int .u64 x] w fun e w' => e = .returned (.pointer (some ⟨w.heap.size, 0, none⟩)) ∧ w' = w.alloc (.cells (pCells Tryd.prog x) 179) := by
  go_enter Tryd.func11, Tryd.ntmps11
  go_wp2_with (first | (refine Base.wpList_buildL 81 (l := [(2, .tmp 3)]) (by kernel_rfl) ?_) | (refine Base.wpList_buildL 94 (l := [(7, .tmp 4)]) (by kernel_rfl) ?_) | (refine Base.wpList_buildL 179 (l := [(0, .tmp 5)]) (by kernel_rfl) ?_))
  go_returns
  exact ⟨rfl, rfl⟩
set_option maxRecDepth 100000 in
theorem refuse (p : Value) (T b : Nat) (l : Int) (w : World) (h1 : T ≠ 38) (h2 : T ≠ 41) (h3 : T ≠ 29) :
    Calls Tryd.prog 12 #[p, .agg #[.iface T (.pointer (some ⟨b, 0, none⟩)), .int .i32 l]] w fun e w' => e = .returned (.agg #[.iface T (.pointer (some ⟨b, 0, none⟩)), .int .i32 l]) ∧ Below w.heap.size w w' := by
  go_enter Tryd.func12, Tryd.ntmps12
  go_wp2_with (go_at_call 16; go_in)
  go_returns
  exact ⟨rfl, by go_grown⟩
set_option maxRecDepth 100000 in
theorem refuseNil (p : Value) (l : Int) (w : World) :
    Calls Tryd.prog 12 #[p, .agg #[.nilIface, .int .i32 l]] w fun e w' => e = .returned (.agg #[.nilIface, .int .i32 l]) ∧ Below w.heap.size w w' := by
  go_enter Tryd.func12, Tryd.ntmps12
  go_wp2_with (go_at_call 16; go_in)
  go_returns
  exact ⟨rfl, by go_grown⟩
set_option maxRecDepth 100000 in
theorem refuseDot (p : Value) (b : Nat) (l k : Int) (w : World) (hc : w.cell? ⟨b, 4, none⟩ = some (.int .u8 k)) (hk : (k == 0) = false) :
    Calls Tryd.prog 12 #[p, .agg #[.iface 38 (.pointer (some ⟨b, 0, none⟩)), .int .i32 l]] w fun e w' => e = .returned (.agg #[.iface 38 (.pointer (some ⟨b, 0, none⟩)), .int .i32 l]) ∧ Below w.heap.size w w' := by
  have lb := Base.block_of_cell hc
  go_enter Tryd.func12, Tryd.ntmps12
  go_wp2_with (go_at_call 16; go_in)
  go_returns
  exact ⟨rfl, by go_grown⟩
set_option maxRecDepth 100000 in
theorem refuseIndex (p : Value) (b : Nat) (l k : Int) (w : World) (hc : w.cell? ⟨b, 5, none⟩ = some (.int .u8 k)) (hk : (k == 0) = false) :
    Calls Tryd.prog 12 #[p, .agg #[.iface 41 (.pointer (some ⟨b, 0, none⟩)), .int .i32 l]] w fun e w' => e = .returned (.agg #[.iface 41 (.pointer (some ⟨b, 0, none⟩)), .int .i32 l]) ∧ Below w.heap.size w w' := by
  have lb := Base.block_of_cell hc
  go_enter Tryd.func12, Tryd.ntmps12
  go_wp2_with (go_at_call 16; go_in)
  go_returns
  exact ⟨rfl, by go_grown⟩
theorem below_drewN {B : Nat} {a w : World} (h : Below B a w) (n : Nat) : Below B a (w.drewN n) := ⟨h.os, h.tape, h.output, h.size, h.block⟩
set_option maxRecDepth 100000 in
set_option maxHeartbeats 4000000 in
theorem law28_0_false (kind ref loc : Int) (nm : ByteArray) (w : World) (hk0 : 0 ≤ kind) (hk1 : kind ≤ 255) (hr0 : 0 ≤ ref) (hr1 : ref ≤ 4294967295) (hb1 : nm.size ≤ 65536) (hb2 : nm.size ≤ 1048576) (e0 : (kind % 6 == 0) = true) :
    Calls Tryd.prog 5 #[.int .u8 kind, .bool false, .string nm, .int .u32 ref, .int .i32 loc] w fun e w' => e = .returned (.bool true) ∧ Below w.heap.size w w' := by
  go_enter Tryd.func5, Tryd.ntmps5
  go_wp2_with (first | (go_at_call 10; go_in) | (go_at_call 11; refine Calls.mono (newPar _ _) ?_; rintro e w' ⟨rfl, rfl⟩))
  generalize hW : World.alloc _ _ = W
  have hb : Below w.heap.size w W := by rw [← hW]; go_grown
  have rp : Base.RowAt W (w.heap.size + 1 + 1 + 1 + 1 + 1) 179 (pCells Tryd.prog 0) := by rw [← hW]; exact Base.RowAt.new' _ _ _ _ (by simp)
  have v0 : W.cell? ⟨w.heap.size + 1 + 1 + 1, 0, none⟩ = some (.iface 38 (.pointer (some ⟨w.heap.size + 1 + 1 + 1 + 1, 0, none⟩))) := by rw [← hW]; simp [go_sem]
  have ro : W.cell? ⟨w.heap.size + 1 + 1 + 1 + 1, 4, none⟩ = some (.int .u8 1) := by rw [← hW]; simp [go_sem]
  clear hW
  refine Calls.mono (refuseDot _ _ loc 1 _ ro rfl) ?_
  rintro e w2 ⟨rfl, hb2'⟩
  have hp : w2.cell? ⟨w.heap.size + 1 + 1 + 1 + 1 + 1, 106, none⟩ = some (.slice none 0 0) := Base.cell_below hb2' rp.lt (rp.cell (by kernel_rfl))
  have v0 := Base.cell_below hb2' (Base.block_of_cell v0) v0
  have lv := Base.block_of_cell v0
  have hbw : Below w.heap.size w w2 := hb.trans (hb2'.mono hb.size)
  have H0 := Lib.hid hbw
  clear hbw hb hb2' rp ro
  go_wp2_with (first | (go_at_call 13; go_in))
  have hq := eqSame 38 40 Tryd.underlying38 (by kernel_rfl) (by kernel_rfl)
  go_quiet (fail)
  go_wp2
  go_returns
  have hbw := H0.out
  have hs2 := hbw.size
  refine ⟨rfl, ?_⟩
  exact below_drewN (hbw.alloc hs2 _) _
set_option maxRecDepth 100000 in
set_option maxHeartbeats 4000000 in
theorem law28_0_true (kind ref loc : Int) (nm : ByteArray) (w : World) (hk0 : 0 ≤ kind) (hk1 : kind ≤ 255) (hr0 : 0 ≤ ref) (hr1 : ref ≤ 4294967295) (hb1 : nm.size ≤ 65536) (hb2 : nm.size ≤ 1048576) (e0 : (kind % 6 == 0) = true) :
    Calls Tryd.prog 5 #[.int .u8 kind, .bool true, .string nm, .int .u32 ref, .int .i32 loc] w fun e w' => e = .returned (.bool true) ∧ Below w.heap.size w w' := by
  go_enter Tryd.func5, Tryd.ntmps5
  go_wp2_with (first | (go_at_call 10; go_in) | (go_at_call 11; refine Calls.mono (newPar _ _) ?_; rintro e w' ⟨rfl, rfl⟩))
  generalize hW : World.alloc _ _ = W
  have hb : Below w.heap.size w W := by rw [← hW]; go_grown
  have rp : Base.RowAt W (w.heap.size + 1 + 1 + 1 + 1 + 1) 179 (pCells Tryd.prog 0) := by rw [← hW]; exact Base.RowAt.new' _ _ _ _ (by simp)
  have v0 : W.cell? ⟨w.heap.size + 1 + 1 + 1, 0, none⟩ = some (.iface 38 (.pointer (some ⟨w.heap.size + 1 + 1 + 1 + 1, 0, none⟩))) := by rw [← hW]; simp [go_sem]
  have ro : W.cell? ⟨w.heap.size + 1 + 1 + 1 + 1, 4, none⟩ = some (.int .u8 2) := by rw [← hW]; simp [go_sem]
  clear hW
  refine Calls.mono (refuseDot _ _ loc 2 _ ro rfl) ?_
  rintro e w2 ⟨rfl, hb2'⟩
  have hp : w2.cell? ⟨w.heap.size + 1 + 1 + 1 + 1 + 1, 106, none⟩ = some (.slice none 0 0) := Base.cell_below hb2' rp.lt (rp.cell (by kernel_rfl))
  have v0 := Base.cell_below hb2' (Base.block_of_cell v0) v0
  have lv := Base.block_of_cell v0
  have hbw : Below w.heap.size w w2 := hb.trans (hb2'.mono hb.size)
  have H0 := Lib.hid hbw
  clear hbw hb hb2' rp ro
  go_wp2_with (first | (go_at_call 13; go_in))
  have hq := eqSame 38 40 Tryd.underlying38 (by kernel_rfl) (by kernel_rfl)
  go_quiet (fail)
  go_wp2
  go_returns
  have hbw := H0.out
  have hs2 := hbw.size
  refine ⟨rfl, ?_⟩
  exact below_drewN (hbw.alloc hs2 _) _
set_option maxRecDepth 100000 in
set_option maxHeartbeats 4000000 in
theorem law28_1_false (kind ref loc : Int) (nm : ByteArray) (w : World) (hk0 : 0 ≤ kind) (hk1 : kind ≤ 255) (hr0 : 0 ≤ ref) (hr1 : ref ≤ 4294967295) (hb1 : nm.size ≤ 65536) (hb2 : nm.size ≤ 1048576) (e0 : (kind % 6 == 0) = false) (e1 : (kind % 6 == 1) = true) :
    Calls Tryd.prog 5 #[.int .u8 kind, .bool false, .string nm, .int .u32 ref, .int .i32 loc] w fun e w' => e = .returned (.bool true) ∧ Below w.heap.size w w' := by
  go_enter Tryd.func5, Tryd.ntmps5
  go_wp2_with (first | (go_at_call 10; go_in) | (go_at_call 11; refine Calls.mono (newPar _ _) ?_; rintro e w' ⟨rfl, rfl⟩))
  generalize hW : World.alloc _ _ = W
  have hb : Below w.heap.size w W := by rw [← hW]; go_grown
  have rp : Base.RowAt W (w.heap.size + 1 + 1 + 1 + 1 + 1 + 1) 179 (pCells Tryd.prog 0) := by rw [← hW]; exact Base.RowAt.new' _ _ _ _ (by simp)
  have v0 : W.cell? ⟨w.heap.size + 1 + 1 + 1, 0, none⟩ = some (.iface 41 (.pointer (some ⟨w.heap.size + 1 + 1 + 1 + 1 + 1, 0, none⟩))) := by rw [← hW]; simp [go_sem]
  have ro : W.cell? ⟨w.heap.size + 1 + 1 + 1 + 1 + 1, 5, none⟩ = some (.int .u8 1) := by rw [← hW]; simp [go_sem]
  clear hW
  refine Calls.mono (refuseIndex _ _ loc 1 _ ro rfl) ?_
  rintro e w2 ⟨rfl, hb2'⟩
  have hp : w2.cell? ⟨w.heap.size + 1 + 1 + 1 + 1 + 1 + 1, 106, none⟩ = some (.slice none 0 0) := Base.cell_below hb2' rp.lt (rp.cell (by kernel_rfl))
  have v0 := Base.cell_below hb2' (Base.block_of_cell v0) v0
  have lv := Base.block_of_cell v0
  have hbw : Below w.heap.size w w2 := hb.trans (hb2'.mono hb.size)
  have H0 := Lib.hid hbw
  clear hbw hb hb2' rp ro
  go_wp2_with (first | (go_at_call 13; go_in))
  have hq := eqSame 41 47 Tryd.underlying41 (by kernel_rfl) (by kernel_rfl)
  go_quiet (fail)
  go_wp2
  go_returns
  have hbw := H0.out
  have hs2 := hbw.size
  refine ⟨rfl, ?_⟩
  exact below_drewN (hbw.alloc hs2 _) _
set_option maxRecDepth 100000 in
set_option maxHeartbeats 4000000 in
theorem law28_1_true (kind ref loc : Int) (nm : ByteArray) (w : World) (hk0 : 0 ≤ kind) (hk1 : kind ≤ 255) (hr0 : 0 ≤ ref) (hr1 : ref ≤ 4294967295) (hb1 : nm.size ≤ 65536) (hb2 : nm.size ≤ 1048576) (e0 : (kind % 6 == 0) = false) (e1 : (kind % 6 == 1) = true) :
    Calls Tryd.prog 5 #[.int .u8 kind, .bool true, .string nm, .int .u32 ref, .int .i32 loc] w fun e w' => e = .returned (.bool true) ∧ Below w.heap.size w w' := by
  go_enter Tryd.func5, Tryd.ntmps5
  go_wp2_with (first | (go_at_call 10; go_in) | (go_at_call 11; refine Calls.mono (newPar _ _) ?_; rintro e w' ⟨rfl, rfl⟩))
  generalize hW : World.alloc _ _ = W
  have hb : Below w.heap.size w W := by rw [← hW]; go_grown
  have rp : Base.RowAt W (w.heap.size + 1 + 1 + 1 + 1 + 1 + 1) 179 (pCells Tryd.prog 0) := by rw [← hW]; exact Base.RowAt.new' _ _ _ _ (by simp)
  have v0 : W.cell? ⟨w.heap.size + 1 + 1 + 1, 0, none⟩ = some (.iface 41 (.pointer (some ⟨w.heap.size + 1 + 1 + 1 + 1 + 1, 0, none⟩))) := by rw [← hW]; simp [go_sem]
  have ro : W.cell? ⟨w.heap.size + 1 + 1 + 1 + 1 + 1, 5, none⟩ = some (.int .u8 2) := by rw [← hW]; simp [go_sem]
  clear hW
  refine Calls.mono (refuseIndex _ _ loc 2 _ ro rfl) ?_
  rintro e w2 ⟨rfl, hb2'⟩
  have hp : w2.cell? ⟨w.heap.size + 1 + 1 + 1 + 1 + 1 + 1, 106, none⟩ = some (.slice none 0 0) := Base.cell_below hb2' rp.lt (rp.cell (by kernel_rfl))
  have v0 := Base.cell_below hb2' (Base.block_of_cell v0) v0
  have lv := Base.block_of_cell v0
  have hbw : Below w.heap.size w w2 := hb.trans (hb2'.mono hb.size)
  have H0 := Lib.hid hbw
  clear hbw hb hb2' rp ro
  go_wp2_with (first | (go_at_call 13; go_in))
  have hq := eqSame 41 47 Tryd.underlying41 (by kernel_rfl) (by kernel_rfl)
  go_quiet (fail)
  go_wp2
  go_returns
  have hbw := H0.out
  have hs2 := hbw.size
  refine ⟨rfl, ?_⟩
  exact below_drewN (hbw.alloc hs2 _) _
set_option maxRecDepth 100000 in
set_option maxHeartbeats 4000000 in
theorem law28_2_false (kind ref loc : Int) (nm : ByteArray) (w : World) (hk0 : 0 ≤ kind) (hk1 : kind ≤ 255) (hr0 : 0 ≤ ref) (hr1 : ref ≤ 4294967295) (hb1 : nm.size ≤ 65536) (hb2 : nm.size ≤ 1048576) (e0 : (kind % 6 == 0) = false) (e1 : (kind % 6 == 1) = false) (e2 : (kind % 6 == 2) = true) :
    Calls Tryd.prog 5 #[.int .u8 kind, .bool false, .string nm, .int .u32 ref, .int .i32 loc] w fun e w' => e = .returned (.bool true) ∧ Below w.heap.size w w' := by
  go_enter Tryd.func5, Tryd.ntmps5
  go_wp2_with (first | (go_at_call 10; go_in) | (go_at_call 11; refine Calls.mono (newPar _ _) ?_; rintro e w' ⟨rfl, rfl⟩))
  generalize hW : World.alloc _ _ = W
  have hb : Below w.heap.size w W := by rw [← hW]; go_grown
  have rp : Base.RowAt W (w.heap.size + 1 + 1 + 1 + 1 + 1) 179 (pCells Tryd.prog 0) := by rw [← hW]; exact Base.RowAt.new' _ _ _ _ (by simp)
  have v0 : W.cell? ⟨w.heap.size + 1 + 1 + 1, 0, none⟩ = some (.iface 42 (.pointer (some ⟨w.heap.size + 1 + 1 + 1 + 1, 0, none⟩))) := by rw [← hW]; simp [go_sem]
  clear hW
  refine Calls.mono (refuse _ 42 _ loc _ (by decide) (by decide) (by decide)) ?_
  rintro e w2 ⟨rfl, hb2'⟩
  have hp : w2.cell? ⟨w.heap.size + 1 + 1 + 1 + 1 + 1, 106, none⟩ = some (.slice none 0 0) := Base.cell_below hb2' rp.lt (rp.cell (by kernel_rfl))
  have v0 := Base.cell_below hb2' (Base.block_of_cell v0) v0
  have lv := Base.block_of_cell v0
  have hbw : Below w.heap.size w w2 := hb.trans (hb2'.mono hb.size)
  have H0 := Lib.hid hbw
  clear hbw hb hb2' rp
  go_wp2_with (first | (go_at_call 13; go_in))
  have hq := eqSame 42 45 Tryd.underlying42 (by kernel_rfl) (by kernel_rfl)
  go_quiet (fail)
  go_wp2
  go_returns
  have hbw := H0.out
  have hs2 := hbw.size
  refine ⟨rfl, ?_⟩
  exact below_drewN (hbw.alloc hs2 _) _
set_option maxRecDepth 100000 in
set_option maxHeartbeats 4000000 in
theorem law28_2_true (kind ref loc : Int) (nm : ByteArray) (w : World) (hk0 : 0 ≤ kind) (hk1 : kind ≤ 255) (hr0 : 0 ≤ ref) (hr1 : ref ≤ 4294967295) (hb1 : nm.size ≤ 65536) (hb2 : nm.size ≤ 1048576) (e0 : (kind % 6 == 0) = false) (e1 : (kind % 6 == 1) = false) (e2 : (kind % 6 == 2) = true) :
    Calls Tryd.prog 5 #[.int .u8 kind, .bool true, .string nm, .int .u32 ref, .int .i32 loc] w fun e w' => e = .returned (.bool true) ∧ Below w.heap.size w w' := by
  go_enter Tryd.func5, Tryd.ntmps5
  go_wp2_with (first | (go_at_call 10; go_in) | (go_at_call 11; refine Calls.mono (newPar _ _) ?_; rintro e w' ⟨rfl, rfl⟩))
  generalize hW : World.alloc _ _ = W
  have hb : Below w.heap.size w W := by rw [← hW]; go_grown
  have rp : Base.RowAt W (w.heap.size + 1 + 1 + 1 + 1 + 1) 179 (pCells Tryd.prog 0) := by rw [← hW]; exact Base.RowAt.new' _ _ _ _ (by simp)
  have v0 : W.cell? ⟨w.heap.size + 1 + 1 + 1, 0, none⟩ = some (.iface 42 (.pointer (some ⟨w.heap.size + 1 + 1 + 1 + 1, 0, none⟩))) := by rw [← hW]; simp [go_sem]
  clear hW
  refine Calls.mono (refuse _ 42 _ loc _ (by decide) (by decide) (by decide)) ?_
  rintro e w2 ⟨rfl, hb2'⟩
  have hp : w2.cell? ⟨w.heap.size + 1 + 1 + 1 + 1 + 1, 106, none⟩ = some (.slice none 0 0) := Base.cell_below hb2' rp.lt (rp.cell (by kernel_rfl))
  have v0 := Base.cell_below hb2' (Base.block_of_cell v0) v0
  have lv := Base.block_of_cell v0
  have hbw : Below w.heap.size w w2 := hb.trans (hb2'.mono hb.size)
  have H0 := Lib.hid hbw
  clear hbw hb hb2' rp
  go_wp2_with (first | (go_at_call 13; go_in))
  have hq := eqSame 42 45 Tryd.underlying42 (by kernel_rfl) (by kernel_rfl)
  go_quiet (fail)
  go_wp2
  go_returns
  have hbw := H0.out
  have hs2 := hbw.size
  refine ⟨rfl, ?_⟩
  exact below_drewN (hbw.alloc hs2 _) _
set_option maxRecDepth 100000 in
set_option maxHeartbeats 4000000 in
theorem law28_3_false (kind ref loc : Int) (nm : ByteArray) (w : World) (hk0 : 0 ≤ kind) (hk1 : kind ≤ 255) (hr0 : 0 ≤ ref) (hr1 : ref ≤ 4294967295) (hb1 : nm.size ≤ 65536) (hb2 : nm.size ≤ 1048576) (e0 : (kind % 6 == 0) = false) (e1 : (kind % 6 == 1) = false) (e2 : (kind % 6 == 2) = false) (e3 : (kind % 6 == 3) = true) :
    Calls Tryd.prog 5 #[.int .u8 kind, .bool false, .string nm, .int .u32 ref, .int .i32 loc] w fun e w' => e = .returned (.bool true) ∧ Below w.heap.size w w' := by
  go_enter Tryd.func5, Tryd.ntmps5
  go_wp2_with (first | (go_at_call 10; go_in) | (go_at_call 11; refine Calls.mono (newPar _ _) ?_; rintro e w' ⟨rfl, rfl⟩))
  generalize hW : World.alloc _ _ = W
  have hb : Below w.heap.size w W := by rw [← hW]; go_grown
  have rp : Base.RowAt W (w.heap.size + 1 + 1 + 1 + 1 + 1) 179 (pCells Tryd.prog 0) := by rw [← hW]; exact Base.RowAt.new' _ _ _ _ (by simp)
  have v0 : W.cell? ⟨w.heap.size + 1 + 1 + 1, 0, none⟩ = some (.iface 48 (.pointer (some ⟨w.heap.size + 1 + 1 + 1 + 1, 0, none⟩))) := by rw [← hW]; simp [go_sem]
  clear hW
  refine Calls.mono (refuse _ 48 _ loc _ (by decide) (by decide) (by decide)) ?_
  rintro e w2 ⟨rfl, hb2'⟩
  have hp : w2.cell? ⟨w.heap.size + 1 + 1 + 1 + 1 + 1, 106, none⟩ = some (.slice none 0 0) := Base.cell_below hb2' rp.lt (rp.cell (by kernel_rfl))
  have v0 := Base.cell_below hb2' (Base.block_of_cell v0) v0
  have lv := Base.block_of_cell v0
  have hbw : Below w.heap.size w w2 := hb.trans (hb2'.mono hb.size)
  have H0 := Lib.hid hbw
  clear hbw hb hb2' rp
  go_wp2_with (first | (go_at_call 13; go_in))
  have hq := eqSame 48 52 Tryd.underlying48 (by kernel_rfl) (by kernel_rfl)
  go_quiet (fail)
  go_wp2
  go_returns
  have hbw := H0.out
  have hs2 := hbw.size
  refine ⟨rfl, ?_⟩
  exact below_drewN (hbw.alloc hs2 _) _
set_option maxRecDepth 100000 in
set_option maxHeartbeats 4000000 in
theorem law28_3_true (kind ref loc : Int) (nm : ByteArray) (w : World) (hk0 : 0 ≤ kind) (hk1 : kind ≤ 255) (hr0 : 0 ≤ ref) (hr1 : ref ≤ 4294967295) (hb1 : nm.size ≤ 65536) (hb2 : nm.size ≤ 1048576) (e0 : (kind % 6 == 0) = false) (e1 : (kind % 6 == 1) = false) (e2 : (kind % 6 == 2) = false) (e3 : (kind % 6 == 3) = true) :
    Calls Tryd.prog 5 #[.int .u8 kind, .bool true, .string nm, .int .u32 ref, .int .i32 loc] w fun e w' => e = .returned (.bool true) ∧ Below w.heap.size w w' := by
  go_enter Tryd.func5, Tryd.ntmps5
  go_wp2_with (first | (go_at_call 10; go_in) | (go_at_call 11; refine Calls.mono (newPar _ _) ?_; rintro e w' ⟨rfl, rfl⟩))
  generalize hW : World.alloc _ _ = W
  have hb : Below w.heap.size w W := by rw [← hW]; go_grown
  have rp : Base.RowAt W (w.heap.size + 1 + 1 + 1 + 1 + 1) 179 (pCells Tryd.prog 0) := by rw [← hW]; exact Base.RowAt.new' _ _ _ _ (by simp)
  have v0 : W.cell? ⟨w.heap.size + 1 + 1 + 1, 0, none⟩ = some (.iface 48 (.pointer (some ⟨w.heap.size + 1 + 1 + 1 + 1, 0, none⟩))) := by rw [← hW]; simp [go_sem]
  clear hW
  refine Calls.mono (refuse _ 48 _ loc _ (by decide) (by decide) (by decide)) ?_
  rintro e w2 ⟨rfl, hb2'⟩
  have hp : w2.cell? ⟨w.heap.size + 1 + 1 + 1 + 1 + 1, 106, none⟩ = some (.slice none 0 0) := Base.cell_below hb2' rp.lt (rp.cell (by kernel_rfl))
  have v0 := Base.cell_below hb2' (Base.block_of_cell v0) v0
  have lv := Base.block_of_cell v0
  have hbw : Below w.heap.size w w2 := hb.trans (hb2'.mono hb.size)
  have H0 := Lib.hid hbw
  clear hbw hb hb2' rp
  go_wp2_with (first | (go_at_call 13; go_in))
  have hq := eqSame 48 52 Tryd.underlying48 (by kernel_rfl) (by kernel_rfl)
  go_quiet (fail)
  go_wp2
  go_returns
  have hbw := H0.out
  have hs2 := hbw.size
  refine ⟨rfl, ?_⟩
  exact below_drewN (hbw.alloc hs2 _) _
set_option maxRecDepth 100000 in
set_option maxHeartbeats 4000000 in
theorem law28_4_false (kind ref loc : Int) (nm : ByteArray) (w : World) (hk0 : 0 ≤ kind) (hk1 : kind ≤ 255) (hr0 : 0 ≤ ref) (hr1 : ref ≤ 4294967295) (hb1 : nm.size ≤ 65536) (hb2 : nm.size ≤ 1048576) (e0 : (kind % 6 == 0) = false) (e1 : (kind % 6 == 1) = false) (e2 : (kind % 6 == 2) = false) (e3 : (kind % 6 == 3) = false) (e4 : (kind % 6 == 4) = true) :
    Calls Tryd.prog 5 #[.int .u8 kind, .bool false, .string nm, .int .u32 ref, .int .i32 loc] w fun e w' => e = .returned (.bool true) ∧ Below w.heap.size w w' := by
  go_enter Tryd.func5, Tryd.ntmps5
  go_wp2_with (first | (go_at_call 10; go_in) | (go_at_call 11; refine Calls.mono (newPar _ _) ?_; rintro e w' ⟨rfl, rfl⟩))
  generalize hW : World.alloc _ _ = W
  have hb : Below w.heap.size w W := by rw [← hW]; go_grown
  have rp : Base.RowAt W (w.heap.size + 1 + 1 + 1 + 1 + 1) 179 (pCells Tryd.prog 0) := by rw [← hW]; exact Base.RowAt.new' _ _ _ _ (by simp)
  have v0 : W.cell? ⟨w.heap.size + 1 + 1 + 1, 0, none⟩ = some (.iface 53 (.pointer (some ⟨w.heap.size + 1 + 1 + 1 + 1, 0, none⟩))) := by rw [← hW]; simp [go_sem]
  clear hW
  refine Calls.mono (refuse _ 53 _ loc _ (by decide) (by decide) (by decide)) ?_
  rintro e w2 ⟨rfl, hb2'⟩
  have hp : w2.cell? ⟨w.heap.size + 1 + 1 + 1 + 1 + 1, 106, none⟩ = some (.slice none 0 0) := Base.cell_below hb2' rp.lt (rp.cell (by kernel_rfl))
  have v0 := Base.cell_below hb2' (Base.block_of_cell v0) v0
  have lv := Base.block_of_cell v0
  have hbw : Below w.heap.size w w2 := hb.trans (hb2'.mono hb.size)
  have H0 := Lib.hid hbw
  clear hbw hb hb2' rp
  go_wp2_with (first | (go_at_call 13; go_in))
  have hq := eqSame 53 55 Tryd.underlying53 (by kernel_rfl) (by kernel_rfl)
  go_quiet (fail)
  go_wp2
  go_returns
  have hbw := H0.out
  have hs2 := hbw.size
  refine ⟨rfl, ?_⟩
  exact below_drewN (hbw.alloc hs2 _) _
set_option maxRecDepth 100000 in
set_option maxHeartbeats 4000000 in
theorem law28_4_true (kind ref loc : Int) (nm : ByteArray) (w : World) (hk0 : 0 ≤ kind) (hk1 : kind ≤ 255) (hr0 : 0 ≤ ref) (hr1 : ref ≤ 4294967295) (hb1 : nm.size ≤ 65536) (hb2 : nm.size ≤ 1048576) (e0 : (kind % 6 == 0) = false) (e1 : (kind % 6 == 1) = false) (e2 : (kind % 6 == 2) = false) (e3 : (kind % 6 == 3) = false) (e4 : (kind % 6 == 4) = true) :
    Calls Tryd.prog 5 #[.int .u8 kind, .bool true, .string nm, .int .u32 ref, .int .i32 loc] w fun e w' => e = .returned (.bool true) ∧ Below w.heap.size w w' := by
  go_enter Tryd.func5, Tryd.ntmps5
  go_wp2_with (first | (go_at_call 10; go_in) | (go_at_call 11; refine Calls.mono (newPar _ _) ?_; rintro e w' ⟨rfl, rfl⟩))
  generalize hW : World.alloc _ _ = W
  have hb : Below w.heap.size w W := by rw [← hW]; go_grown
  have rp : Base.RowAt W (w.heap.size + 1 + 1 + 1 + 1 + 1) 179 (pCells Tryd.prog 0) := by rw [← hW]; exact Base.RowAt.new' _ _ _ _ (by simp)
  have v0 : W.cell? ⟨w.heap.size + 1 + 1 + 1, 0, none⟩ = some (.iface 53 (.pointer (some ⟨w.heap.size + 1 + 1 + 1 + 1, 0, none⟩))) := by rw [← hW]; simp [go_sem]
  clear hW
  refine Calls.mono (refuse _ 53 _ loc _ (by decide) (by decide) (by decide)) ?_
  rintro e w2 ⟨rfl, hb2'⟩
  have hp : w2.cell? ⟨w.heap.size + 1 + 1 + 1 + 1 + 1, 106, none⟩ = some (.slice none 0 0) := Base.cell_below hb2' rp.lt (rp.cell (by kernel_rfl))
  have v0 := Base.cell_below hb2' (Base.block_of_cell v0) v0
  have lv := Base.block_of_cell v0
  have hbw : Below w.heap.size w w2 := hb.trans (hb2'.mono hb.size)
  have H0 := Lib.hid hbw
  clear hbw hb hb2' rp
  go_wp2_with (first | (go_at_call 13; go_in))
  have hq := eqSame 53 55 Tryd.underlying53 (by kernel_rfl) (by kernel_rfl)
  go_quiet (fail)
  go_wp2
  go_returns
  have hbw := H0.out
  have hs2 := hbw.size
  refine ⟨rfl, ?_⟩
  exact below_drewN (hbw.alloc hs2 _) _
set_option maxRecDepth 100000 in
set_option maxHeartbeats 4000000 in
theorem law28_5_false (kind ref loc : Int) (nm : ByteArray) (w : World) (hk0 : 0 ≤ kind) (hk1 : kind ≤ 255) (hr0 : 0 ≤ ref) (hr1 : ref ≤ 4294967295) (hb1 : nm.size ≤ 65536) (hb2 : nm.size ≤ 1048576) (e0 : (kind % 6 == 0) = false) (e1 : (kind % 6 == 1) = false) (e2 : (kind % 6 == 2) = false) (e3 : (kind % 6 == 3) = false) (e4 : (kind % 6 == 4) = false) :
    Calls Tryd.prog 5 #[.int .u8 kind, .bool false, .string nm, .int .u32 ref, .int .i32 loc] w fun e w' => e = .returned (.bool true) ∧ Below w.heap.size w w' := by
  go_enter Tryd.func5, Tryd.ntmps5
  go_wp2_with (first | (go_at_call 10; go_in) | (go_at_call 11; refine Calls.mono (newPar _ _) ?_; rintro e w' ⟨rfl, rfl⟩))
  generalize hW : World.alloc _ _ = W
  have hb : Below w.heap.size w W := by rw [← hW]; go_grown
  have rp : Base.RowAt W (w.heap.size + 1 + 1 + 1 + 1) 179 (pCells Tryd.prog 0) := by rw [← hW]; exact Base.RowAt.new' _ _ _ _ (by simp)
  have v0 : W.cell? ⟨w.heap.size + 1 + 1 + 1, 0, none⟩ = some (.nilIface) := by rw [← hW]; simp [go_sem]
  clear hW
  refine Calls.mono (refuseNil _ loc _) ?_
  rintro e w2 ⟨rfl, hb2'⟩
  have hp : w2.cell? ⟨w.heap.size + 1 + 1 + 1 + 1, 106, none⟩ = some (.slice none 0 0) := Base.cell_below hb2' rp.lt (rp.cell (by kernel_rfl))
  have v0 := Base.cell_below hb2' (Base.block_of_cell v0) v0
  have lv := Base.block_of_cell v0
  have hbw : Below w.heap.size w w2 := hb.trans (hb2'.mono hb.size)
  have H0 := Lib.hid hbw
  clear hbw hb hb2' rp
  go_wp2_with (first | (go_at_call 13; go_in))
  go_quiet (fail)
  go_wp2
  go_returns
  have hbw := H0.out
  have hs2 := hbw.size
  refine ⟨rfl, ?_⟩
  exact below_drewN (hbw.alloc hs2 _) _
set_option maxRecDepth 100000 in
set_option maxHeartbeats 4000000 in
theorem law28_5_true (kind ref loc : Int) (nm : ByteArray) (w : World) (hk0 : 0 ≤ kind) (hk1 : kind ≤ 255) (hr0 : 0 ≤ ref) (hr1 : ref ≤ 4294967295) (hb1 : nm.size ≤ 65536) (hb2 : nm.size ≤ 1048576) (e0 : (kind % 6 == 0) = false) (e1 : (kind % 6 == 1) = false) (e2 : (kind % 6 == 2) = false) (e3 : (kind % 6 == 3) = false) (e4 : (kind % 6 == 4) = false) :
    Calls Tryd.prog 5 #[.int .u8 kind, .bool true, .string nm, .int .u32 ref, .int .i32 loc] w fun e w' => e = .returned (.bool true) ∧ Below w.heap.size w w' := by
  go_enter Tryd.func5, Tryd.ntmps5
  go_wp2_with (first | (go_at_call 10; go_in) | (go_at_call 11; refine Calls.mono (newPar _ _) ?_; rintro e w' ⟨rfl, rfl⟩))
  generalize hW : World.alloc _ _ = W
  have hb : Below w.heap.size w W := by rw [← hW]; go_grown
  have rp : Base.RowAt W (w.heap.size + 1 + 1 + 1 + 1) 179 (pCells Tryd.prog 0) := by rw [← hW]; exact Base.RowAt.new' _ _ _ _ (by simp)
  have v0 : W.cell? ⟨w.heap.size + 1 + 1 + 1, 0, none⟩ = some (.nilIface) := by rw [← hW]; simp [go_sem]
  clear hW
  refine Calls.mono (refuseNil _ loc _) ?_
  rintro e w2 ⟨rfl, hb2'⟩
  have hp : w2.cell? ⟨w.heap.size + 1 + 1 + 1 + 1, 106, none⟩ = some (.slice none 0 0) := Base.cell_below hb2' rp.lt (rp.cell (by kernel_rfl))
  have v0 := Base.cell_below hb2' (Base.block_of_cell v0) v0
  have lv := Base.block_of_cell v0
  have hbw : Below w.heap.size w w2 := hb.trans (hb2'.mono hb.size)
  have H0 := Lib.hid hbw
  clear hbw hb hb2' rp
  go_wp2_with (first | (go_at_call 13; go_in))
  go_quiet (fail)
  go_wp2
  go_returns
  have hbw := H0.out
  have hs2 := hbw.size
  refine ⟨rfl, ?_⟩
  exact below_drewN (hbw.alloc hs2 _) _
set_option maxRecDepth 100000 in
set_option maxHeartbeats 4000000 in
theorem law28 (kind ref loc : Int) (cc : Bool) (nm : ByteArray) (w : World) (hk0 : 0 ≤ kind) (hk1 : kind ≤ 255) (hr0 : 0 ≤ ref) (hr1 : ref ≤ 4294967295) (hs : nm.size ≤ 9223372036854775807) :
    Calls Tryd.prog 5 #[.int .u8 kind, .bool cc, .string nm, .int .u32 ref, .int .i32 loc] w fun e w' => e = .returned (.bool true) ∧ Below w.heap.size w w' := by
  by_cases hbig : 65536 < nm.size
  · go_enter Tryd.func5, Tryd.ntmps5
    go_wp2_with (first | (go_at_call 10; go_in))
    all_goals (go_returns; exact ⟨rfl, by go_grown⟩)
  · have hb1 : nm.size ≤ 65536 := by omega
    have hb2 : nm.size ≤ 1048576 := by omega
    have f : ∀ j : Int, kind % 6 ≠ j → (kind % 6 == j) = false := fun j h => by simp [h]
    have t : ∀ j : Int, kind % 6 = j → (kind % 6 == j) = true := fun j h => by simp [h]
    by_cases h0 : kind % 6 = 0
    · cases cc
      · exact law28_0_false kind ref loc nm w hk0 hk1 hr0 hr1 hb1 hb2 (t 0 h0)
      · exact law28_0_true kind ref loc nm w hk0 hk1 hr0 hr1 hb1 hb2 (t 0 h0)
    by_cases h1 : kind % 6 = 1
    · cases cc
      · exact law28_1_false kind ref loc nm w hk0 hk1 hr0 hr1 hb1 hb2 (f 0 h0) (t 1 h1)
      · exact law28_1_true kind ref loc nm w hk0 hk1 hr0 hr1 hb1 hb2 (f 0 h0) (t 1 h1)
    by_cases h2 : kind % 6 = 2
    · cases cc
      · exact law28_2_false kind ref loc nm w hk0 hk1 hr0 hr1 hb1 hb2 (f 0 h0) (f 1 h1) (t 2 h2)
      · exact law28_2_true kind ref loc nm w hk0 hk1 hr0 hr1 hb1 hb2 (f 0 h0) (f 1 h1) (t 2 h2)
    by_cases h3 : kind % 6 = 3
    · cases cc
      · exact law28_3_false kind ref loc nm w hk0 hk1 hr0 hr1 hb1 hb2 (f 0 h0) (f 1 h1) (f 2 h2) (t 3 h3)
      · exact law28_3_true kind ref loc nm w hk0 hk1 hr0 hr1 hb1 hb2 (f 0 h0) (f 1 h1) (f 2 h2) (t 3 h3)
    by_cases h4 : kind % 6 = 4
    · cases cc
      · exact law28_4_false kind ref loc nm w hk0 hk1 hr0 hr1 hb1 hb2 (f 0 h0) (f 1 h1) (f 2 h2) (f 3 h3) (t 4 h4)
      · exact law28_4_true kind ref loc nm w hk0 hk1 hr0 hr1 hb1 hb2 (f 0 h0) (f 1 h1) (f 2 h2) (f 3 h3) (t 4 h4)
    cases cc
    · exact law28_5_false kind ref loc nm w hk0 hk1 hr0 hr1 hb1 hb2 (f 0 h0) (f 1 h1) (f 2 h2) (f 3 h3) (f 4 h4)
    · exact law28_5_true kind ref loc nm w hk0 hk1 hr0 hr1 hb1 hb2 (f 0 h0) (f 1 h1) (f 2 h2) (f 3 h3) (f 4 h4)
end Go.Proofs.YtmefnjmohehdbaaDoorRR.l179
