/- The law on a logical assignment to an indexed target, walked. No condition. -/
import Derived.Test.YtlgefnjkoklboaaDoorLow36x
import Derived.Test.YtlgefnjkoklboaaDoorIxCopy
import Derived.Test.YtlgefnjkoklboaaDoorLaws
import Derived.Test.YtlgefnjkoklboaaDoorNew
import Derived.Test.YtlgefnjkoklboaaDoorDeepCells
namespace Go.Proofs.YtlgefnjkoklboaaDoor.Use
open Go.ChangeShapes Go.WideShapes Go.ChangeAt Go.RowKit Go.Sort
set_option linter.unusedVariables false
set_option maxRecDepth 100000 in
set_option maxHeartbeats 4000000 in
theorem law21no (x op src tl il ll loc : Int) (m iv v : Nat) (w : World) (hm : m ≤ 65536) (hx1 : (bits BinOp.and IntKind.u64 x 137438953472 != 0) = false) : Calls Tryd.prog 6 #[.int .u64 x, .int .u8 op, .int .u32 src, .int .u32 (m : Int), .int .i32 tl, .int .i32 il, .int .i32 ll, .int .i32 loc, .float .f64 iv, .float .f64 v] w fun e w' => e = .returned (.bool true) ∧ Below w.heap.size w w' := by
  have hbig : (m : Int) ≤ 65536 := by omega
  go_enter Tryd.func6, Tryd.ntmps6
  go_wp2_with fail
  rw [show ((m : Int) + 1) = ((m + 1 : Nat) : Int) from rfl]
  refine Calls.mono (l131.newParser x (m + 1) (by omega) 0 0 _) ?_
  rintro e w1 ⟨pb, sb, mb, rfl, hb1, hsb, hmb, hsp, hmp, rp, rs, rm⟩
  obtain ⟨hP, hx, -⟩ := parAt rp
  have hC0 : Cnt _ (m + 1) (fun _ => 0) := Cnt.made (z := #[.pointer none, .string ⟨#[]⟩, .int .u32 0, .int .u32 0, .int .u32 0, .int .u32 0, .int .u32 0, .int .u16 0, .int .u8 0, .int .u8 0]) (m + 1) rfl rfl
  generalize madeCells _ _ = C at rs hC0
  have lpb := hP.lt
  have lsb := rs.lt
  have HC0 := Lib.hid hC0
  clear rp rm hC0
  go_wp2_with (first | (go_at_call 11; go_in) | (go_at_call 12; go_in) | (go_at_call 19; go_in) | (go_at_call 20; go_in) | (go_at_call 25; go_in) | (go_at_call 26; go_in))
  generalize hW : World.alloc _ _ = W
  have hz : w1.heap.size + 21 ≤ W.heap.size := by rw [← hW]; simp <;> omega
  have hbW : Below w1.heap.size w1 W := by rw [← hW]; go_grown
  have rf : Base.RowAt W (w1.heap.size) 28 #[.int .u32 src, .int .u32 (m : Int)] := by
    rw [← hW]
    exact (((((((((((((((((((((Base.RowAt.new' _ _ _ _ (by simp)).alloc _).alloc _).alloc _).alloc _).alloc _).alloc _).alloc _).alloc _).alloc _).alloc _).alloc _).alloc _).alloc _).alloc _).alloc _).alloc _).alloc _).alloc _).alloc _).alloc _)
  have ri : Base.RowAt W (w1.heap.size + 1 + 1 + 1 + 1) 214 #[.int .u32 src, .int .u32 (m : Int), .bool false, .bool false, .bool false] := by
    rw [← hW]
    exact (((((((((((((((((Base.RowAt.new' _ _ _ _ (by simp)).alloc _).alloc _).alloc _).alloc _).alloc _).alloc _).alloc _).alloc _).alloc _).alloc _).alloc _).alloc _).alloc _).alloc _).alloc _).alloc _)
  have rm : Base.RowAt W (w1.heap.size + 1 + 1 + 1 + 1 + 1 + 1 + 1) 50 #[.float .f64 iv] := by
    rw [← hW]
    exact ((((((((((((((Base.RowAt.new' _ _ _ _ (by simp)).alloc _).alloc _).alloc _).alloc _).alloc _).alloc _).alloc _).alloc _).alloc _).alloc _).alloc _).alloc _).alloc _)
  have ro : Base.RowAt W (w1.heap.size + 1 + 1 + 1 + 1 + 1 + 1 + 1 + 1 + 1 + 1 + 1 + 1) 69 #[.iface 55 (.pointer (some ⟨w1.heap.size + 1 + 1 + 1 + 1, 0, none⟩)), .int .i32 tl, .iface 36 (.pointer (some ⟨w1.heap.size + 1 + 1 + 1 + 1 + 1 + 1 + 1, 0, none⟩)), .int .i32 il, .int .i32 0, .int .u8 0, .bool false, .bool false, .bool false] := by
    rw [← hW]
    exact (((((((((Base.RowAt.new' _ _ _ _ (by simp)).alloc _).alloc _).alloc _).alloc _).alloc _).alloc _).alloc _).alloc _)
  have rn : Base.RowAt W (w1.heap.size + 1 + 1 + 1 + 1 + 1 + 1 + 1 + 1 + 1 + 1 + 1 + 1 + 1 + 1 + 1 + 1) 50 #[.float .f64 v] := by
    rw [← hW]
    exact (((((Base.RowAt.new' _ _ _ _ (by simp)).alloc _).alloc _).alloc _).alloc _)
  have re : Base.RowAt W (w1.heap.size + 1 + 1 + 1 + 1 + 1 + 1 + 1 + 1 + 1 + 1 + 1 + 1 + 1 + 1 + 1 + 1 + 1 + 1 + 1 + 1) 47 #[.iface 64 (.pointer (some ⟨w1.heap.size + 1 + 1 + 1 + 1 + 1 + 1 + 1 + 1 + 1 + 1 + 1 + 1, 0, none⟩)), .int .i32 ll, .iface 36 (.pointer (some ⟨w1.heap.size + 1 + 1 + 1 + 1 + 1 + 1 + 1 + 1 + 1 + 1 + 1 + 1 + 1 + 1 + 1 + 1, 0, none⟩)), .int .i32 loc, .int .u8 0, .bool false] := by
    rw [← hW]
    exact (Base.RowAt.new' _ _ _ _ (by simp))
  clear hW
  have hP := hP.below hbW lpb
  have hx := Base.cell_below hbW lpb hx
  have rs := rs.below hbW lsb
  have hx2 : (bits BinOp.and IntKind.u64 x 137438953472 == 0) = true := by simpa using hx1
  refine Calls.mono (low21xno pb (w1.heap.size + 1 + 1 + 1 + 1 + 1 + 1 + 1 + 1 + 1 + 1 + 1 + 1) (w1.heap.size + 1 + 1 + 1 + 1 + 1 + 1 + 1) (w1.heap.size + 1 + 1 + 1 + 1 + 1 + 1 + 1 + 1 + 1 + 1 + 1 + 1 + 1 + 1 + 1 + 1 + 1 + 1 + 1 + 1) x ll loc op _ hx hx1 (re.cell rfl) (re.cell rfl) (ro.cell rfl)) ?_
  rintro e w2 ⟨rfl, hb2⟩
  have hP2 := hP.below hb2 hP.lt
  have hp2 := hP2.syms
  have rs2 := rs.below hb2 rs.lt
  have hbw : Below w.heap.size w w2 := hb1.trans ((hbW.mono hb1.size).trans (hb2.mono (Nat.le_trans hb1.size hbW.size)))
  have H0 := Lib.hid hbw
  have HS := Lib.hid rs2
  clear ri rm rn ro re rf hb2 hbw hP hP2 rs rs2 hbW hb1 hx
  go_wp2_with (first | (go_at_call 22; go_in))
  rw [show ((m : Int) + 1) = ((m + 1 : Nat) : Int) from rfl]
  generalize hW3 : World.alloc _ _ = W4
  have hbZ : Below w2.heap.size w2 W4 := by rw [← hW3]; go_grown
  clear hW3
  have hp3 := Base.cell_below hbZ (Base.block_of_cell hp2) hp2
  have HS3 := HS.out.below hbZ HS.out.lt
  have H3 := Lib.hid (H0.out.trans (hbZ.mono H0.out.size))
  refine Calls.mono (total1 pb sb (m + 1) (fun _ => 0) 0 _ (by omega) hp3 (Lib.hid (HC0.out.cells HS3)) (Lib.hid (fun i hi => Nat.zero_le _)) (sum_zero _)) ?_
  rintro e w4 ⟨rfl, rfl⟩
  go_wp2
  go_returns
  exact ⟨rfl, H3.out⟩
set_option maxRecDepth 100000 in
set_option maxHeartbeats 4000000 in
theorem law21yes (x op src tl il ll loc : Int) (m iv v : Nat) (w : World) (hm : m ≤ 65536) (hx1 : (bits BinOp.and IntKind.u64 x 137438953472 != 0) = true) : Calls Tryd.prog 6 #[.int .u64 x, .int .u8 op, .int .u32 src, .int .u32 (m : Int), .int .i32 tl, .int .i32 il, .int .i32 ll, .int .i32 loc, .float .f64 iv, .float .f64 v] w fun e w' => e = .returned (.bool true) ∧ Below w.heap.size w w' := by
  have hbig : (m : Int) ≤ 65536 := by omega
  go_enter Tryd.func6, Tryd.ntmps6
  go_wp2_with fail
  rw [show ((m : Int) + 1) = ((m + 1 : Nat) : Int) from rfl]
  refine Calls.mono (l131.newParser x (m + 1) (by omega) 0 0 _) ?_
  rintro e w1 ⟨pb, sb, mb, rfl, hb1, hsb, hmb, hsp, hmp, rp, rs, rm⟩
  obtain ⟨hP, hx, -⟩ := parAt rp
  have hC0 : Cnt _ (m + 1) (fun _ => 0) := Cnt.made (z := #[.pointer none, .string ⟨#[]⟩, .int .u32 0, .int .u32 0, .int .u32 0, .int .u32 0, .int .u32 0, .int .u16 0, .int .u8 0, .int .u8 0]) (m + 1) rfl rfl
  generalize madeCells _ _ = C at rs hC0
  have lpb := hP.lt
  have lsb := rs.lt
  have HC0 := Lib.hid hC0
  clear rp rm hC0
  go_wp2_with (first | (go_at_call 11; go_in) | (go_at_call 12; go_in) | (go_at_call 19; go_in) | (go_at_call 20; go_in) | (go_at_call 25; go_in) | (go_at_call 26; go_in))
  generalize hW : World.alloc _ _ = W
  have hz : w1.heap.size + 21 ≤ W.heap.size := by rw [← hW]; simp <;> omega
  have hbW : Below w1.heap.size w1 W := by rw [← hW]; go_grown
  have rf : Base.RowAt W (w1.heap.size) 28 #[.int .u32 src, .int .u32 (m : Int)] := by
    rw [← hW]
    exact (((((((((((((((((((((Base.RowAt.new' _ _ _ _ (by simp)).alloc _).alloc _).alloc _).alloc _).alloc _).alloc _).alloc _).alloc _).alloc _).alloc _).alloc _).alloc _).alloc _).alloc _).alloc _).alloc _).alloc _).alloc _).alloc _).alloc _)
  have ri : Base.RowAt W (w1.heap.size + 1 + 1 + 1 + 1) 214 #[.int .u32 src, .int .u32 (m : Int), .bool false, .bool false, .bool false] := by
    rw [← hW]
    exact (((((((((((((((((Base.RowAt.new' _ _ _ _ (by simp)).alloc _).alloc _).alloc _).alloc _).alloc _).alloc _).alloc _).alloc _).alloc _).alloc _).alloc _).alloc _).alloc _).alloc _).alloc _).alloc _)
  have rm : Base.RowAt W (w1.heap.size + 1 + 1 + 1 + 1 + 1 + 1 + 1) 50 #[.float .f64 iv] := by
    rw [← hW]
    exact ((((((((((((((Base.RowAt.new' _ _ _ _ (by simp)).alloc _).alloc _).alloc _).alloc _).alloc _).alloc _).alloc _).alloc _).alloc _).alloc _).alloc _).alloc _).alloc _)
  have ro : Base.RowAt W (w1.heap.size + 1 + 1 + 1 + 1 + 1 + 1 + 1 + 1 + 1 + 1 + 1 + 1) 69 #[.iface 55 (.pointer (some ⟨w1.heap.size + 1 + 1 + 1 + 1, 0, none⟩)), .int .i32 tl, .iface 36 (.pointer (some ⟨w1.heap.size + 1 + 1 + 1 + 1 + 1 + 1 + 1, 0, none⟩)), .int .i32 il, .int .i32 0, .int .u8 0, .bool false, .bool false, .bool false] := by
    rw [← hW]
    exact (((((((((Base.RowAt.new' _ _ _ _ (by simp)).alloc _).alloc _).alloc _).alloc _).alloc _).alloc _).alloc _).alloc _)
  have rn : Base.RowAt W (w1.heap.size + 1 + 1 + 1 + 1 + 1 + 1 + 1 + 1 + 1 + 1 + 1 + 1 + 1 + 1 + 1 + 1) 50 #[.float .f64 v] := by
    rw [← hW]
    exact (((((Base.RowAt.new' _ _ _ _ (by simp)).alloc _).alloc _).alloc _).alloc _)
  have re : Base.RowAt W (w1.heap.size + 1 + 1 + 1 + 1 + 1 + 1 + 1 + 1 + 1 + 1 + 1 + 1 + 1 + 1 + 1 + 1 + 1 + 1 + 1 + 1) 47 #[.iface 64 (.pointer (some ⟨w1.heap.size + 1 + 1 + 1 + 1 + 1 + 1 + 1 + 1 + 1 + 1 + 1 + 1, 0, none⟩)), .int .i32 ll, .iface 36 (.pointer (some ⟨w1.heap.size + 1 + 1 + 1 + 1 + 1 + 1 + 1 + 1 + 1 + 1 + 1 + 1 + 1 + 1 + 1 + 1, 0, none⟩)), .int .i32 loc, .int .u8 0, .bool false] := by
    rw [← hW]
    exact (Base.RowAt.new' _ _ _ _ (by simp))
  clear hW
  have hP := hP.below hbW lpb
  have hx := Base.cell_below hbW lpb hx
  have rs := rs.below hbW lsb
  have hx2 : (bits BinOp.and IntKind.u64 x 137438953472 == 0) = false := by simpa using hx1
  refine Calls.mono (low21xyes pb sb (m + 1) (m + 1) m 0 (w1.heap.size + 1 + 1 + 1 + 1 + 1 + 1 + 1 + 1 + 1 + 1 + 1 + 1) (w1.heap.size + 1 + 1 + 1 + 1) (w1.heap.size + 1 + 1 + 1 + 1 + 1 + 1 + 1) (w1.heap.size + 1 + 1 + 1 + 1 + 1 + 1 + 1 + 1 + 1 + 1 + 1 + 1 + 1 + 1 + 1 + 1 + 1 + 1 + 1 + 1) (w1.heap.size + 1 + 1 + 1 + 1 + 1 + 1 + 1 + 1 + 1 + 1 + 1 + 1 + 1 + 1 + 1 + 1) iv x src tl il ll loc op loc C _ hP (by omega) (by omega) (by omega) hx hx1 rs (HC0.out.2 m (by omega)) (by omega) ro (by omega) ri (by omega) rm (by omega) re (by omega)) ?_
  rintro e w2 ⟨v1, rfl, b, a, x1, x2, i1, i2, m1, m2, hv, ⟨hk2, hs2⟩, hl, h1, h2, h3, h4, h5, h6, h7, h8, h9, rb, ra, rx1, rx2, ri1, ri2, rm1, rm2⟩
  obtain rfl := Ending.returned.inj hv
  clear hv
  have hC1 := (HC0.out.set (i := m) (by omega)).set' (i := m) (c := 0 + 1) (by omega) (by simp [bump])
  have b0 : w2.cell? ⟨b, 0, none⟩ = some (.iface 64 (.pointer (some ⟨x1, 0, none⟩))) := rb.cell rfl
  have b1 : w2.cell? ⟨b, 1, none⟩ = some (.int .i32 ll) := rb.cell rfl
  have b2 : w2.cell? ⟨b, 2, none⟩ = some (.iface 41 (.pointer (some ⟨a, 0, none⟩))) := rb.cell rfl
  have b3 : w2.cell? ⟨b, 3, none⟩ = some (.int .i32 ll) := rb.cell rfl
  have b4 : w2.cell? ⟨b, 4, none⟩ = some (.int .u8 op) := rb.cell rfl
  have a0 : w2.cell? ⟨a, 0, none⟩ = some (.iface 64 (.pointer (some ⟨x2, 0, none⟩))) := ra.cell rfl
  have a1 : w2.cell? ⟨a, 1, none⟩ = some (.int .i32 ll) := ra.cell rfl
  have a2 : w2.cell? ⟨a, 2, none⟩ = some (.iface 36 (.pointer (some ⟨w1.heap.size + 1 + 1 + 1 + 1 + 1 + 1 + 1 + 1 + 1 + 1 + 1 + 1 + 1 + 1 + 1 + 1, 0, none⟩))) := ra.cell rfl
  have a3 : w2.cell? ⟨a, 3, none⟩ = some (.int .i32 loc) := ra.cell rfl
  have a4 : w2.cell? ⟨a, 4, none⟩ = some (.int .u8 37) := ra.cell rfl
  have xq0 : w2.cell? ⟨x1, 0, none⟩ = some (.iface 55 (.pointer (some ⟨i1, 0, none⟩))) := rx1.cell rfl
  have xq1 : w2.cell? ⟨x1, 1, none⟩ = some (.int .i32 ll) := rx1.cell rfl
  have xq2 : w2.cell? ⟨x1, 2, none⟩ = some (.iface 36 (.pointer (some ⟨m1, 0, none⟩))) := rx1.cell rfl
  have xq3 : w2.cell? ⟨x1, 3, none⟩ = some (.int .i32 ll) := rx1.cell rfl
  have xq5 : w2.cell? ⟨x1, 5, none⟩ = some (.int .u8 0) := rx1.cell rfl
  have pq0 : w2.cell? ⟨i1, 0, none⟩ = some (.int .u32 src) := ri1.cell rfl
  have pq1 : w2.cell? ⟨i1, 1, none⟩ = some (.int .u32 (m : Int)) := ri1.cell rfl
  have m0 : w2.cell? ⟨m1, 0, none⟩ = some (.float .f64 iv) := rm1.cell rfl
  have yq0 : w2.cell? ⟨x2, 0, none⟩ = some (.iface 55 (.pointer (some ⟨i2, 0, none⟩))) := rx2.cell rfl
  have yq1 : w2.cell? ⟨x2, 1, none⟩ = some (.int .i32 ll) := rx2.cell rfl
  have yq2 : w2.cell? ⟨x2, 2, none⟩ = some (.iface 36 (.pointer (some ⟨m2, 0, none⟩))) := rx2.cell rfl
  have yq3 : w2.cell? ⟨x2, 3, none⟩ = some (.int .i32 ll) := rx2.cell rfl
  have yq5 : w2.cell? ⟨x2, 5, none⟩ = some (.int .u8 0) := rx2.cell rfl
  have rq0 : w2.cell? ⟨i2, 0, none⟩ = some (.int .u32 src) := ri2.cell rfl
  have rq1 : w2.cell? ⟨i2, 1, none⟩ = some (.int .u32 (m : Int)) := ri2.cell rfl
  have n0 : w2.cell? ⟨m2, 0, none⟩ = some (.float .f64 iv) := rm2.cell rfl
  have ro2 := ro.kept hk2 (by simp <;> omega)
  have o0 : w2.cell? ⟨w1.heap.size + 1 + 1 + 1 + 1 + 1 + 1 + 1 + 1 + 1 + 1 + 1 + 1, 0, none⟩ = some (.iface 55 (.pointer (some ⟨w1.heap.size + 1 + 1 + 1 + 1, 0, none⟩))) := ro2.cell rfl
  have o1 : w2.cell? ⟨w1.heap.size + 1 + 1 + 1 + 1 + 1 + 1 + 1 + 1 + 1 + 1 + 1 + 1, 1, none⟩ = some (.int .i32 tl) := ro2.cell rfl
  have o2 : w2.cell? ⟨w1.heap.size + 1 + 1 + 1 + 1 + 1 + 1 + 1 + 1 + 1 + 1 + 1 + 1, 2, none⟩ = some (.iface 36 (.pointer (some ⟨w1.heap.size + 1 + 1 + 1 + 1 + 1 + 1 + 1, 0, none⟩))) := ro2.cell rfl
  have o3 : w2.cell? ⟨w1.heap.size + 1 + 1 + 1 + 1 + 1 + 1 + 1 + 1 + 1 + 1 + 1 + 1, 3, none⟩ = some (.int .i32 il) := ro2.cell rfl
  have px := rx1.plain
  have py := rx2.plain
  have po := ro2.plain
  have pi := ri1.plain
  have pr := ri2.plain
  have pj := (ri.kept hk2 (by simp <;> omega)).plain
  have pm := rm1.plain
  have pm2 := rm2.plain
  have pk := (rm.kept hk2 (by simp <;> omega)).plain
  have pn := (rn.kept hk2 (by simp <;> omega)).plain
  have hlW := hk2.size
  have nx : ¬ x1 = w1.heap.size + 1 + 1 + 1 + 1 + 1 + 1 + 1 + 1 + 1 + 1 + 1 + 1 := by omega
  have ny : ¬ x2 = w1.heap.size + 1 + 1 + 1 + 1 + 1 + 1 + 1 + 1 + 1 + 1 + 1 + 1 := by omega
  have ni : ¬ i1 = w1.heap.size + 1 + 1 + 1 + 1 := by omega
  have nr : ¬ i2 = w1.heap.size + 1 + 1 + 1 + 1 := by omega
  have nm : ¬ m1 = w1.heap.size + 1 + 1 + 1 + 1 + 1 + 1 + 1 := by omega
  have nn : ¬ m2 = w1.heap.size + 1 + 1 + 1 + 1 + 1 + 1 + 1 := by omega
  have nxy : ¬ x2 = x1 := by omega
  have nii : ¬ i1 = i2 := by omega
  have nmm : ¬ m1 = m2 := by omega
  have lsb2 := hs2.lt
  have hP2 := hP.kept hk2 (by simp <;> omega)
  have hp2 := hP2.syms
  have hc2 : w2.cell? ⟨sb, m * 10 + 4, none⟩ = some (.int .u32 2) := by
    have := hC1.cells hs2 m (by omega)
    simpa [bump] using this
  have hbw : Below w.heap.size w w2 := hb1.trans (((hbW.mono hb1.size)).trans (hk2.below (Nat.le_trans hb1.size hbW.size) (fun k hk => by simp at hk; omega)))
  have H0 := Lib.hid hbw
  have HC := Lib.hid hC1
  have HS := Lib.hid hs2
  have rf2 := rf.kept hk2 (by simp <;> omega)
  have rf0 : w2.cell? ⟨w1.heap.size, 0, none⟩ = some (.int .u32 src) := rf2.cell rfl
  have rf1 : w2.cell? ⟨w1.heap.size, 1, none⟩ = some (.int .u32 (m : Int)) := rf2.cell rfl
  clear rb ra rx1 rx2 ri1 ri2 rm1 rm2 ri rm rn ro ro2 re rf rf2 hk2 hbw hC1 hs2 hP hP2 rs hbW hb1 hx hl h1 h2 h3 h4 h5 h6 h7 h8 h9 hlW
  go_wp2_with (first | (go_at_call 15; go_in))
  generalize hW2 : World.alloc _ _ = W2
  have hbX : Below w2.heap.size w2 W2 := by rw [← hW2]; go_grown
  clear hW2
  have b0 := Base.cell_below hbX (Base.block_of_cell b0) b0
  have b1 := Base.cell_below hbX (Base.block_of_cell b1) b1
  have b2 := Base.cell_below hbX (Base.block_of_cell b2) b2
  have b3 := Base.cell_below hbX (Base.block_of_cell b3) b3
  have b4 := Base.cell_below hbX (Base.block_of_cell b4) b4
  have a0 := Base.cell_below hbX (Base.block_of_cell a0) a0
  have a1 := Base.cell_below hbX (Base.block_of_cell a1) a1
  have a2 := Base.cell_below hbX (Base.block_of_cell a2) a2
  have a3 := Base.cell_below hbX (Base.block_of_cell a3) a3
  have a4 := Base.cell_below hbX (Base.block_of_cell a4) a4
  have xq0 := Base.cell_below hbX (Base.block_of_cell xq0) xq0
  have xq1 := Base.cell_below hbX (Base.block_of_cell xq1) xq1
  have xq2 := Base.cell_below hbX (Base.block_of_cell xq2) xq2
  have xq3 := Base.cell_below hbX (Base.block_of_cell xq3) xq3
  have xq5 := Base.cell_below hbX (Base.block_of_cell xq5) xq5
  have yq0 := Base.cell_below hbX (Base.block_of_cell yq0) yq0
  have yq1 := Base.cell_below hbX (Base.block_of_cell yq1) yq1
  have yq2 := Base.cell_below hbX (Base.block_of_cell yq2) yq2
  have yq3 := Base.cell_below hbX (Base.block_of_cell yq3) yq3
  have yq5 := Base.cell_below hbX (Base.block_of_cell yq5) yq5
  have pq0 := Base.cell_below hbX (Base.block_of_cell pq0) pq0
  have pq1 := Base.cell_below hbX (Base.block_of_cell pq1) pq1
  have rq0 := Base.cell_below hbX (Base.block_of_cell rq0) rq0
  have rq1 := Base.cell_below hbX (Base.block_of_cell rq1) rq1
  have m0 := Base.cell_below hbX (Base.block_of_cell m0) m0
  have n0 := Base.cell_below hbX (Base.block_of_cell n0) n0
  have o0 := Base.cell_below hbX (Base.block_of_cell o0) o0
  have o1 := Base.cell_below hbX (Base.block_of_cell o1) o1
  have o2 := Base.cell_below hbX (Base.block_of_cell o2) o2
  have o3 := Base.cell_below hbX (Base.block_of_cell o3) o3
  have rf0 := Base.cell_below hbX (Base.block_of_cell rf0) rf0
  have rf1 := Base.cell_below hbX (Base.block_of_cell rf1) rf1
  have hp2 := Base.cell_below hbX (Base.block_of_cell hp2) hp2
  have hc2 := Base.cell_below hbX (Base.block_of_cell hc2) hc2
  have px := Base.plainAt_below hbX (Base.plain_lt px) px
  have py := Base.plainAt_below hbX (Base.plain_lt py) py
  have po := Base.plainAt_below hbX (Base.plain_lt po) po
  have pi := Base.plainAt_below hbX (Base.plain_lt pi) pi
  have pr := Base.plainAt_below hbX (Base.plain_lt pr) pr
  have pj := Base.plainAt_below hbX (Base.plain_lt pj) pj
  have pm := Base.plainAt_below hbX (Base.plain_lt pm) pm
  have pm2 := Base.plainAt_below hbX (Base.plain_lt pm2) pm2
  have pk := Base.plainAt_below hbX (Base.plain_lt pk) pk
  have pn := Base.plainAt_below hbX (Base.plain_lt pn) pn
  have HS := HS.out.below hbX HS.out.lt
  have HS := Lib.hid HS
  have hbw := H0.out.trans (hbX.mono H0.out.size)
  have H0 := Lib.hid hbw
  clear hbw hbX
  have kq0 := cell_regrown (b0)
  have kq1 := cell_regrown (b1)
  have kq2 := cell_regrown (rf0)
  have kq3 := cell_regrown (rf1)
  have kq4 := cell_regrown (xq0)
  have kq5 := cell_regrown (xq1)
  have kq6 := cell_regrown (xq2)
  have kq7 := cell_regrown (xq3)
  have kq8 := cell_regrown (xq5)
  have kq9 := cell_regrown (pq0)
  have kq10 := cell_regrown (pq1)
  have kq11 := cell_regrown (m0)
  have kq12 := cell_regrown (o0)
  have kq13 := cell_regrown (o1)
  have kq14 := cell_regrown (o2)
  have kq15 := cell_regrown (o3)
  have kp16 := plain_regrown px
  have kp17 := plain_regrown po
  have kp18 := plain_regrown pi
  have kp19 := plain_regrown pj
  have kp20 := plain_regrown pm
  have kp21 := plain_regrown pk
  refine wp_region_quiet_below (by kernel_rfl) (by kernel_rfl) ?_
  repeat (quiet_step (first | (go_at_call 27; exact Calls.regrown_of (indexCopy x1 i1 m1 _ _ _ iv ll src (m : Int) tl il _ (kq4 _ _) (kq5 _ _) (kq6 _ _) (kq7 _ _) (kq8 _ _) (kq9 _ _) (kq10 _ _) (kq11 _ _) (kq12 _ _) (kq13 _ _) (kq14 _ _) (kq15 _ _) (kp16 _ _) (kp17 _ _) (kp18 _ _) (kp19 _ _) (kp20 _ _) (kp21 _ _) nx ni nm))))
  refine wpQuiet_nil ?_
  intro _ hw'
  obtain ⟨⟨dq, osq⟩, hw''⟩ := hw'
  subst hw''
  have hbY := below_regrown W2 dq osq
  have b0 := Base.cell_below hbY (Base.block_of_cell b0) b0
  have b1 := Base.cell_below hbY (Base.block_of_cell b1) b1
  have b2 := Base.cell_below hbY (Base.block_of_cell b2) b2
  have b3 := Base.cell_below hbY (Base.block_of_cell b3) b3
  have b4 := Base.cell_below hbY (Base.block_of_cell b4) b4
  have a0 := Base.cell_below hbY (Base.block_of_cell a0) a0
  have a1 := Base.cell_below hbY (Base.block_of_cell a1) a1
  have a2 := Base.cell_below hbY (Base.block_of_cell a2) a2
  have a3 := Base.cell_below hbY (Base.block_of_cell a3) a3
  have a4 := Base.cell_below hbY (Base.block_of_cell a4) a4
  have xq0 := Base.cell_below hbY (Base.block_of_cell xq0) xq0
  have xq1 := Base.cell_below hbY (Base.block_of_cell xq1) xq1
  have xq2 := Base.cell_below hbY (Base.block_of_cell xq2) xq2
  have xq3 := Base.cell_below hbY (Base.block_of_cell xq3) xq3
  have xq5 := Base.cell_below hbY (Base.block_of_cell xq5) xq5
  have yq0 := Base.cell_below hbY (Base.block_of_cell yq0) yq0
  have yq1 := Base.cell_below hbY (Base.block_of_cell yq1) yq1
  have yq2 := Base.cell_below hbY (Base.block_of_cell yq2) yq2
  have yq3 := Base.cell_below hbY (Base.block_of_cell yq3) yq3
  have yq5 := Base.cell_below hbY (Base.block_of_cell yq5) yq5
  have pq0 := Base.cell_below hbY (Base.block_of_cell pq0) pq0
  have pq1 := Base.cell_below hbY (Base.block_of_cell pq1) pq1
  have rq0 := Base.cell_below hbY (Base.block_of_cell rq0) rq0
  have rq1 := Base.cell_below hbY (Base.block_of_cell rq1) rq1
  have m0 := Base.cell_below hbY (Base.block_of_cell m0) m0
  have n0 := Base.cell_below hbY (Base.block_of_cell n0) n0
  have o0 := Base.cell_below hbY (Base.block_of_cell o0) o0
  have o1 := Base.cell_below hbY (Base.block_of_cell o1) o1
  have o2 := Base.cell_below hbY (Base.block_of_cell o2) o2
  have o3 := Base.cell_below hbY (Base.block_of_cell o3) o3
  have rf0 := Base.cell_below hbY (Base.block_of_cell rf0) rf0
  have rf1 := Base.cell_below hbY (Base.block_of_cell rf1) rf1
  have hp2 := Base.cell_below hbY (Base.block_of_cell hp2) hp2
  have hc2 := Base.cell_below hbY (Base.block_of_cell hc2) hc2
  have px := Base.plainAt_below hbY (Base.plain_lt px) px
  have py := Base.plainAt_below hbY (Base.plain_lt py) py
  have po := Base.plainAt_below hbY (Base.plain_lt po) po
  have pi := Base.plainAt_below hbY (Base.plain_lt pi) pi
  have pr := Base.plainAt_below hbY (Base.plain_lt pr) pr
  have pj := Base.plainAt_below hbY (Base.plain_lt pj) pj
  have pm := Base.plainAt_below hbY (Base.plain_lt pm) pm
  have pm2 := Base.plainAt_below hbY (Base.plain_lt pm2) pm2
  have pk := Base.plainAt_below hbY (Base.plain_lt pk) pk
  have pn := Base.plainAt_below hbY (Base.plain_lt pn) pn
  clear kq0 kq1 kq2 kq3 kq4 kq5 kq6 kq7 kq8 kq9 kq10 kq11 kq12 kq13 kq14 kq15 kp16 kp17 kp18 kp19 kp20 kp21
  generalize grow (redrawn W2 dq) osq = V at *
  skip
  have HS := HS.out.below hbY HS.out.lt
  have HS := Lib.hid HS
  have hbw := H0.out.trans (hbY.mono H0.out.size)
  have H0 := Lib.hid hbw
  clear hbw hbY
  go_wp2_with (first | (go_at_call 15; go_in))
  generalize hW2 : World.alloc _ _ = W3
  have hbX : Below V.heap.size V W3 := by rw [← hW2]; go_grown
  clear hW2
  have b0 := Base.cell_below hbX (Base.block_of_cell b0) b0
  have b1 := Base.cell_below hbX (Base.block_of_cell b1) b1
  have b2 := Base.cell_below hbX (Base.block_of_cell b2) b2
  have b3 := Base.cell_below hbX (Base.block_of_cell b3) b3
  have b4 := Base.cell_below hbX (Base.block_of_cell b4) b4
  have a0 := Base.cell_below hbX (Base.block_of_cell a0) a0
  have a1 := Base.cell_below hbX (Base.block_of_cell a1) a1
  have a2 := Base.cell_below hbX (Base.block_of_cell a2) a2
  have a3 := Base.cell_below hbX (Base.block_of_cell a3) a3
  have a4 := Base.cell_below hbX (Base.block_of_cell a4) a4
  have xq0 := Base.cell_below hbX (Base.block_of_cell xq0) xq0
  have xq1 := Base.cell_below hbX (Base.block_of_cell xq1) xq1
  have xq2 := Base.cell_below hbX (Base.block_of_cell xq2) xq2
  have xq3 := Base.cell_below hbX (Base.block_of_cell xq3) xq3
  have xq5 := Base.cell_below hbX (Base.block_of_cell xq5) xq5
  have yq0 := Base.cell_below hbX (Base.block_of_cell yq0) yq0
  have yq1 := Base.cell_below hbX (Base.block_of_cell yq1) yq1
  have yq2 := Base.cell_below hbX (Base.block_of_cell yq2) yq2
  have yq3 := Base.cell_below hbX (Base.block_of_cell yq3) yq3
  have yq5 := Base.cell_below hbX (Base.block_of_cell yq5) yq5
  have pq0 := Base.cell_below hbX (Base.block_of_cell pq0) pq0
  have pq1 := Base.cell_below hbX (Base.block_of_cell pq1) pq1
  have rq0 := Base.cell_below hbX (Base.block_of_cell rq0) rq0
  have rq1 := Base.cell_below hbX (Base.block_of_cell rq1) rq1
  have m0 := Base.cell_below hbX (Base.block_of_cell m0) m0
  have n0 := Base.cell_below hbX (Base.block_of_cell n0) n0
  have o0 := Base.cell_below hbX (Base.block_of_cell o0) o0
  have o1 := Base.cell_below hbX (Base.block_of_cell o1) o1
  have o2 := Base.cell_below hbX (Base.block_of_cell o2) o2
  have o3 := Base.cell_below hbX (Base.block_of_cell o3) o3
  have rf0 := Base.cell_below hbX (Base.block_of_cell rf0) rf0
  have rf1 := Base.cell_below hbX (Base.block_of_cell rf1) rf1
  have hp2 := Base.cell_below hbX (Base.block_of_cell hp2) hp2
  have hc2 := Base.cell_below hbX (Base.block_of_cell hc2) hc2
  have px := Base.plainAt_below hbX (Base.plain_lt px) px
  have py := Base.plainAt_below hbX (Base.plain_lt py) py
  have po := Base.plainAt_below hbX (Base.plain_lt po) po
  have pi := Base.plainAt_below hbX (Base.plain_lt pi) pi
  have pr := Base.plainAt_below hbX (Base.plain_lt pr) pr
  have pj := Base.plainAt_below hbX (Base.plain_lt pj) pj
  have pm := Base.plainAt_below hbX (Base.plain_lt pm) pm
  have pm2 := Base.plainAt_below hbX (Base.plain_lt pm2) pm2
  have pk := Base.plainAt_below hbX (Base.plain_lt pk) pk
  have pn := Base.plainAt_below hbX (Base.plain_lt pn) pn
  have HS := HS.out.below hbX HS.out.lt
  have HS := Lib.hid HS
  have hbw := H0.out.trans (hbX.mono H0.out.size)
  have H0 := Lib.hid hbw
  clear hbw hbX
  have kq0 := cell_regrown (a0)
  have kq1 := cell_regrown (a1)
  have kq2 := cell_regrown (rf0)
  have kq3 := cell_regrown (rf1)
  have kq4 := cell_regrown (yq0)
  have kq5 := cell_regrown (yq1)
  have kq6 := cell_regrown (yq2)
  have kq7 := cell_regrown (yq3)
  have kq8 := cell_regrown (yq5)
  have kq9 := cell_regrown (rq0)
  have kq10 := cell_regrown (rq1)
  have kq11 := cell_regrown (n0)
  have kq12 := cell_regrown (o0)
  have kq13 := cell_regrown (o1)
  have kq14 := cell_regrown (o2)
  have kq15 := cell_regrown (o3)
  have kp16 := plain_regrown py
  have kp17 := plain_regrown po
  have kp18 := plain_regrown pr
  have kp19 := plain_regrown pj
  have kp20 := plain_regrown pm2
  have kp21 := plain_regrown pk
  refine wp_region_quiet_below (by kernel_rfl) (by kernel_rfl) ?_
  repeat (quiet_step (first | (go_at_call 27; exact Calls.regrown_of (indexCopy x2 i2 m2 _ _ _ iv ll src (m : Int) tl il _ (kq4 _ _) (kq5 _ _) (kq6 _ _) (kq7 _ _) (kq8 _ _) (kq9 _ _) (kq10 _ _) (kq11 _ _) (kq12 _ _) (kq13 _ _) (kq14 _ _) (kq15 _ _) (kp16 _ _) (kp17 _ _) (kp18 _ _) (kp19 _ _) (kp20 _ _) (kp21 _ _) ny nr nn))))
  refine wpQuiet_nil ?_
  intro _ hw'
  obtain ⟨⟨dq, osq⟩, hw''⟩ := hw'
  subst hw''
  have hbY := below_regrown W3 dq osq
  have b0 := Base.cell_below hbY (Base.block_of_cell b0) b0
  have b1 := Base.cell_below hbY (Base.block_of_cell b1) b1
  have b2 := Base.cell_below hbY (Base.block_of_cell b2) b2
  have b3 := Base.cell_below hbY (Base.block_of_cell b3) b3
  have b4 := Base.cell_below hbY (Base.block_of_cell b4) b4
  have a0 := Base.cell_below hbY (Base.block_of_cell a0) a0
  have a1 := Base.cell_below hbY (Base.block_of_cell a1) a1
  have a2 := Base.cell_below hbY (Base.block_of_cell a2) a2
  have a3 := Base.cell_below hbY (Base.block_of_cell a3) a3
  have a4 := Base.cell_below hbY (Base.block_of_cell a4) a4
  have xq0 := Base.cell_below hbY (Base.block_of_cell xq0) xq0
  have xq1 := Base.cell_below hbY (Base.block_of_cell xq1) xq1
  have xq2 := Base.cell_below hbY (Base.block_of_cell xq2) xq2
  have xq3 := Base.cell_below hbY (Base.block_of_cell xq3) xq3
  have xq5 := Base.cell_below hbY (Base.block_of_cell xq5) xq5
  have yq0 := Base.cell_below hbY (Base.block_of_cell yq0) yq0
  have yq1 := Base.cell_below hbY (Base.block_of_cell yq1) yq1
  have yq2 := Base.cell_below hbY (Base.block_of_cell yq2) yq2
  have yq3 := Base.cell_below hbY (Base.block_of_cell yq3) yq3
  have yq5 := Base.cell_below hbY (Base.block_of_cell yq5) yq5
  have pq0 := Base.cell_below hbY (Base.block_of_cell pq0) pq0
  have pq1 := Base.cell_below hbY (Base.block_of_cell pq1) pq1
  have rq0 := Base.cell_below hbY (Base.block_of_cell rq0) rq0
  have rq1 := Base.cell_below hbY (Base.block_of_cell rq1) rq1
  have m0 := Base.cell_below hbY (Base.block_of_cell m0) m0
  have n0 := Base.cell_below hbY (Base.block_of_cell n0) n0
  have o0 := Base.cell_below hbY (Base.block_of_cell o0) o0
  have o1 := Base.cell_below hbY (Base.block_of_cell o1) o1
  have o2 := Base.cell_below hbY (Base.block_of_cell o2) o2
  have o3 := Base.cell_below hbY (Base.block_of_cell o3) o3
  have rf0 := Base.cell_below hbY (Base.block_of_cell rf0) rf0
  have rf1 := Base.cell_below hbY (Base.block_of_cell rf1) rf1
  have hp2 := Base.cell_below hbY (Base.block_of_cell hp2) hp2
  have hc2 := Base.cell_below hbY (Base.block_of_cell hc2) hc2
  have px := Base.plainAt_below hbY (Base.plain_lt px) px
  have py := Base.plainAt_below hbY (Base.plain_lt py) py
  have po := Base.plainAt_below hbY (Base.plain_lt po) po
  have pi := Base.plainAt_below hbY (Base.plain_lt pi) pi
  have pr := Base.plainAt_below hbY (Base.plain_lt pr) pr
  have pj := Base.plainAt_below hbY (Base.plain_lt pj) pj
  have pm := Base.plainAt_below hbY (Base.plain_lt pm) pm
  have pm2 := Base.plainAt_below hbY (Base.plain_lt pm2) pm2
  have pk := Base.plainAt_below hbY (Base.plain_lt pk) pk
  have pn := Base.plainAt_below hbY (Base.plain_lt pn) pn
  clear kq0 kq1 kq2 kq3 kq4 kq5 kq6 kq7 kq8 kq9 kq10 kq11 kq12 kq13 kq14 kq15 kp16 kp17 kp18 kp19 kp20 kp21
  generalize grow (redrawn W3 dq) osq = V2 at *
  skip
  have HS := HS.out.below hbY HS.out.lt
  have HS := Lib.hid HS
  have hbw := H0.out.trans (hbY.mono H0.out.size)
  have H0 := Lib.hid hbw
  clear hbw hbY
  try (go_wp2_with fail)
  have kq0 := cell_regrown (xq0)
  have kq1 := cell_regrown (xq1)
  have kq2 := cell_regrown (xq2)
  have kq3 := cell_regrown (xq3)
  have kq4 := cell_regrown (yq0)
  have kq5 := cell_regrown (yq1)
  have kq6 := cell_regrown (yq2)
  have kq7 := cell_regrown (yq3)
  have kp8 := plain_regrown px
  have kp9 := plain_regrown py
  have kp10 := plain_regrown pi
  have kp11 := plain_regrown pr
  have kp12 := plain_regrown pm
  have kp13 := plain_regrown pm2
  refine wp_region_quiet_below (by kernel_rfl) (by kernel_rfl) ?_
  repeat (quiet_step (first | (go_at_call 20; exact Calls.regrown_of (asIdent _ _ _)) | (go_at_call 12; exact Calls.regrown_of (asNumber _ _ _))))
  refine wpQuiet_nil ?_
  intro _ hw'
  obtain ⟨⟨dq, osq⟩, hw''⟩ := hw'
  subst hw''
  have hbY := below_regrown V2 dq osq
  have b0 := Base.cell_below hbY (Base.block_of_cell b0) b0
  have b1 := Base.cell_below hbY (Base.block_of_cell b1) b1
  have b2 := Base.cell_below hbY (Base.block_of_cell b2) b2
  have b3 := Base.cell_below hbY (Base.block_of_cell b3) b3
  have b4 := Base.cell_below hbY (Base.block_of_cell b4) b4
  have a0 := Base.cell_below hbY (Base.block_of_cell a0) a0
  have a1 := Base.cell_below hbY (Base.block_of_cell a1) a1
  have a2 := Base.cell_below hbY (Base.block_of_cell a2) a2
  have a3 := Base.cell_below hbY (Base.block_of_cell a3) a3
  have a4 := Base.cell_below hbY (Base.block_of_cell a4) a4
  have xq0 := Base.cell_below hbY (Base.block_of_cell xq0) xq0
  have xq1 := Base.cell_below hbY (Base.block_of_cell xq1) xq1
  have xq2 := Base.cell_below hbY (Base.block_of_cell xq2) xq2
  have xq3 := Base.cell_below hbY (Base.block_of_cell xq3) xq3
  have xq5 := Base.cell_below hbY (Base.block_of_cell xq5) xq5
  have yq0 := Base.cell_below hbY (Base.block_of_cell yq0) yq0
  have yq1 := Base.cell_below hbY (Base.block_of_cell yq1) yq1
  have yq2 := Base.cell_below hbY (Base.block_of_cell yq2) yq2
  have yq3 := Base.cell_below hbY (Base.block_of_cell yq3) yq3
  have yq5 := Base.cell_below hbY (Base.block_of_cell yq5) yq5
  have pq0 := Base.cell_below hbY (Base.block_of_cell pq0) pq0
  have pq1 := Base.cell_below hbY (Base.block_of_cell pq1) pq1
  have rq0 := Base.cell_below hbY (Base.block_of_cell rq0) rq0
  have rq1 := Base.cell_below hbY (Base.block_of_cell rq1) rq1
  have m0 := Base.cell_below hbY (Base.block_of_cell m0) m0
  have n0 := Base.cell_below hbY (Base.block_of_cell n0) n0
  have o0 := Base.cell_below hbY (Base.block_of_cell o0) o0
  have o1 := Base.cell_below hbY (Base.block_of_cell o1) o1
  have o2 := Base.cell_below hbY (Base.block_of_cell o2) o2
  have o3 := Base.cell_below hbY (Base.block_of_cell o3) o3
  have rf0 := Base.cell_below hbY (Base.block_of_cell rf0) rf0
  have rf1 := Base.cell_below hbY (Base.block_of_cell rf1) rf1
  have hp2 := Base.cell_below hbY (Base.block_of_cell hp2) hp2
  have hc2 := Base.cell_below hbY (Base.block_of_cell hc2) hc2
  have px := Base.plainAt_below hbY (Base.plain_lt px) px
  have py := Base.plainAt_below hbY (Base.plain_lt py) py
  have po := Base.plainAt_below hbY (Base.plain_lt po) po
  have pi := Base.plainAt_below hbY (Base.plain_lt pi) pi
  have pr := Base.plainAt_below hbY (Base.plain_lt pr) pr
  have pj := Base.plainAt_below hbY (Base.plain_lt pj) pj
  have pm := Base.plainAt_below hbY (Base.plain_lt pm) pm
  have pm2 := Base.plainAt_below hbY (Base.plain_lt pm2) pm2
  have pk := Base.plainAt_below hbY (Base.plain_lt pk) pk
  have pn := Base.plainAt_below hbY (Base.plain_lt pn) pn
  clear kq0 kq1 kq2 kq3 kq4 kq5 kq6 kq7 kp8 kp9 kp10 kp11 kp12 kp13
  generalize grow (redrawn V2 dq) osq = V3 at *
  skip
  have HS := HS.out.below hbY HS.out.lt
  have HS := Lib.hid HS
  have hbw := H0.out.trans (hbY.mono H0.out.size)
  have H0 := Lib.hid hbw
  clear hbw hbY
  go_wp2_with (first | (go_at_call 12; go_in) | (go_at_call 24; (refine Calls.mono (l131.useCount pb sb (m + 1) m 2 _ (by omega) (by omega) (by simp [go_sem, hp2]) (by simp [go_sem, hc2])) ?_; rintro e w3 ⟨rfl, rfl⟩)))
  rw [show ((m : Int) + 1) = ((m + 1 : Nat) : Int) from rfl]
  generalize hW3 : World.alloc _ _ = W4
  have hbZ : Below V3.heap.size V3 W4 := by rw [← hW3]; go_grown
  clear hW3
  have hp3 := Base.cell_below hbZ (Base.block_of_cell hp2) hp2
  have HS3 := HS.out.below hbZ HS.out.lt
  have H3 := Lib.hid (H0.out.trans (hbZ.mono H0.out.size))
  refine Calls.mono (total1 pb sb (m + 1) (bump (bump (fun _ => 0) m) m) 2 _ (by omega) hp3 (Lib.hid (HC.out.cells HS3)) (Lib.hid (fun i hi => by unfold bump; simp; (repeat split) <;> omega)) (by rw [sum_bump, sum_bump, sum_zero]; simp)) ?_
  rintro e w4 ⟨rfl, rfl⟩
  go_wp2
  go_returns
  exact ⟨rfl, H3.out⟩
set_option maxRecDepth 100000 in
theorem law21 (x op src i tl il ll loc : Int) (iv v : Nat) (w : World) (hi0 : 0 ≤ i) (hi1 : i ≤ 4294967295) : Calls Tryd.prog 6 #[.int .u64 x, .int .u8 op, .int .u32 src, .int .u32 i, .int .i32 tl, .int .i32 il, .int .i32 ll, .int .i32 loc, .float .f64 iv, .float .f64 v] w fun e w' => e = .returned (.bool true) ∧ Below w.heap.size w w' := by
  by_cases hbig : 65536 < i
  · go_enter Tryd.func6, Tryd.ntmps6
    go_wp2
    go_returns
    exact ⟨rfl, by go_grown⟩
  · obtain ⟨m, rfl⟩ := Int.eq_ofNat_of_zero_le hi0
    have hm : m ≤ 65536 := by omega
    by_cases hx1 : (bits BinOp.and IntKind.u64 x 137438953472 != 0) = true
    · exact law21yes x op src tl il ll loc m iv v w hm hx1
    · exact law21no x op src tl il ll loc m iv v w hm (by simpa using hx1)
end Go.Proofs.YtlgefnjkoklboaaDoor.Use
