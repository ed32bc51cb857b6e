/- The ends of the walk of FnStmtsToSingleStmtIdempotent, by the type of the folded node. -/
import Derived.Test.YtcnfpoahlhlknaaIdemA
namespace Go.Proofs.Ytcnfpoahlhlknaa.idem
open Go.ChangeShapes Go.WideShapes Go.ChangeAt Go.RowKit
set_option linter.unusedVariables false

/-- What the list of statements is good for: its fold answers a node of type T at l0. -/
def Stage (T : TypeId) (kd : World → Nat → Prop) (loc cl l0 : Int) (w : World) (e : Ending) (w' : World) : Prop :=
  ∃ sl, e = .returned sl ∧ Below w.heap.size w w' ∧ Hid (Calls Try.prog 13 #[.agg #[.int .i32 loc], sl, .agg #[.int .i32 cl]] w' (StmtRes T kd l0 w'))
theorem cell_below {B : Nat} {w w' : World} (h : Below B w w') {p : Addr} {v : Value} (hp : p.block < B) (hv : w.cell? p = some v) : w'.cell? p = some v := by
  rw [h.cell hp]; exact hv

set_option maxRecDepth 100000 in
theorem endExpr (loc cl loc2 cl2 l0 : Int) (ka : Option Addr) (n c : Nat) (hn : n ≤ 65536) (w : World)
    (H : Hid (Calls Try.prog 12 #[.slice ka n c] w (Stage 63 noKd loc cl l0 w))) :
    Calls Try.prog 4 #[.int .i32 loc, .int .i32 cl, .int .i32 loc2, .int .i32 cl2, .slice ka n c] w fun e w' => e = .returned (.bool true) ∧ Below w.heap.size w w' := by
  go_enter Try.func4, Try.ntmps4
  go_wp2_with (go_at_call 11; go_in)
  refine H.out.mono ?_
  rintro e w1 ⟨sl, rfl, hb1, h13⟩
  go_wp2_with fail
  refine h13.out.mono ?_
  rintro e w2 ⟨b, rfl, hb2, hlt, -⟩
  clear h13
  have hbel : Below w.heap.size w w2 := hb1.trans (hb2.mono hb1.size)
  have hz : w.heap.size ≤ w2.heap.size := hbel.size
  clear hb1 hb2 H
  go_wp2_with fail
  refine Calls.mono (keepExpr loc2 cl2 l0 b _ _ (by simp) (by simp; omega) (by simp [go_sem]) (by simp [go_sem])) ?_
  rintro e w3 ⟨rfl, hb3⟩
  have r0 : w3.cell? ⟨w2.heap.size, 0, none⟩ = some (.iface 63 (.pointer (some ⟨b, 0, none⟩))) := cell_below hb3 (by simp <;> omega) (by simp [go_sem])
  have r1 : w3.cell? ⟨w2.heap.size, 1, none⟩ = some (.int .i32 l0) := cell_below hb3 (by simp <;> omega) (by simp [go_sem])
  have hz3 : w2.heap.size + 1 < w3.heap.size := by have := hb3.size; simp at this; omega
  have hbel3 : Below w.heap.size w w3 := Below.trans (Below.alloc (Below.alloc hbel hz _) (by simp; omega) _) (hb3.mono (by simp; omega))
  clear hb3 hbel
  go_wp2
  go_ret
  exact ⟨rfl, by go_grown⟩

set_option maxRecDepth 100000 in
theorem endLocal (loc cl loc2 cl2 l0 : Int) (ka : Option Addr) (n c : Nat) (hn : n ≤ 65536) (w : World)
    (H : Hid (Calls Try.prog 12 #[.slice ka n c] w (Stage 119 (isKd 0) loc cl l0 w))) :
    Calls Try.prog 4 #[.int .i32 loc, .int .i32 cl, .int .i32 loc2, .int .i32 cl2, .slice ka n c] w fun e w' => e = .returned (.bool true) ∧ Below w.heap.size w w' := by
  go_enter Try.func4, Try.ntmps4
  go_wp2_with (go_at_call 11; go_in)
  refine H.out.mono ?_
  rintro e w1 ⟨sl, rfl, hb1, h13⟩
  go_wp2_with fail
  refine h13.out.mono ?_
  rintro e w2 ⟨b, rfl, hb2, hlt, hkd⟩
  clear h13
  have hbel : Below w.heap.size w w2 := hb1.trans (hb2.mono hb1.size)
  have hz : w.heap.size ≤ w2.heap.size := hbel.size
  clear hb1 hb2 H
  have hkd' : ((w2.alloc (.cells #[.iface 119 (.pointer (some ⟨b, 0, none⟩)), .int .i32 l0] 29)).alloc (.cells #[.iface 119 (.pointer (some ⟨b, 0, none⟩)), .int .i32 l0] 29)).cell? ⟨b, 1, none⟩ = some (.int .u8 0) := by
    have hkd2 : w2.cell? ⟨b, 1, none⟩ = some (.int .u8 0) := hkd
    simp [go_sem, hkd2, hlt]
  go_wp2_with fail
  refine Calls.mono (keepLocal loc2 cl2 l0 b _ _ (by simp) (by simp; omega) (by simp [go_sem]) (by simp [go_sem]) hkd') ?_
  rintro e w3 ⟨rfl, hb3⟩
  have r0 : w3.cell? ⟨w2.heap.size, 0, none⟩ = some (.iface 119 (.pointer (some ⟨b, 0, none⟩))) := cell_below hb3 (by simp <;> omega) (by simp [go_sem])
  have r1 : w3.cell? ⟨w2.heap.size, 1, none⟩ = some (.int .i32 l0) := cell_below hb3 (by simp <;> omega) (by simp [go_sem])
  have hz3 : w2.heap.size + 1 < w3.heap.size := by have := hb3.size; simp at this; omega
  have hbel3 : Below w.heap.size w w3 := Below.trans (Below.alloc (Below.alloc hbel hz _) (by simp; omega) _) (hb3.mono (by simp; omega))
  clear hb3 hbel
  go_wp2
  go_ret
  exact ⟨rfl, by go_grown⟩

set_option maxRecDepth 100000 in
theorem endReturn (loc cl loc2 cl2 l0 : Int) (ka : Option Addr) (n c : Nat) (hn : n ≤ 65536) (w : World)
    (H : Hid (Calls Try.prog 12 #[.slice ka n c] w (Stage 98 noKd loc cl l0 w))) :
    Calls Try.prog 4 #[.int .i32 loc, .int .i32 cl, .int .i32 loc2, .int .i32 cl2, .slice ka n c] w fun e w' => e = .returned (.bool true) ∧ Below w.heap.size w w' := by
  go_enter Try.func4, Try.ntmps4
  go_wp2_with (go_at_call 11; go_in)
  refine H.out.mono ?_
  rintro e w1 ⟨sl, rfl, hb1, h13⟩
  go_wp2_with fail
  refine h13.out.mono ?_
  rintro e w2 ⟨b, rfl, hb2, hlt, -⟩
  clear h13
  have hbel : Below w.heap.size w w2 := hb1.trans (hb2.mono hb1.size)
  have hz : w.heap.size ≤ w2.heap.size := hbel.size
  clear hb1 hb2 H
  go_wp2_with fail
  refine Calls.mono (keepReturn loc2 cl2 l0 b _ _ (by simp) (by simp; omega) (by simp [go_sem]) (by simp [go_sem])) ?_
  rintro e w3 ⟨rfl, hb3⟩
  have r0 : w3.cell? ⟨w2.heap.size, 0, none⟩ = some (.iface 98 (.pointer (some ⟨b, 0, none⟩))) := cell_below hb3 (by simp <;> omega) (by simp [go_sem])
  have r1 : w3.cell? ⟨w2.heap.size, 1, none⟩ = some (.int .i32 l0) := cell_below hb3 (by simp <;> omega) (by simp [go_sem])
  have hz3 : w2.heap.size + 1 < w3.heap.size := by have := hb3.size; simp at this; omega
  have hbel3 : Below w.heap.size w w3 := Below.trans (Below.alloc (Below.alloc hbel hz _) (by simp; omega) _) (hb3.mono (by simp; omega))
  clear hb3 hbel
  go_wp2
  go_ret
  exact ⟨rfl, by go_grown⟩

set_option maxRecDepth 100000 in
theorem endIf (loc cl loc2 cl2 l0 : Int) (ka : Option Addr) (n c : Nat) (hn : n ≤ 65536) (w : World)
    (H : Hid (Calls Try.prog 12 #[.slice ka n c] w (Stage 66 noKd loc cl l0 w))) :
    Calls Try.prog 4 #[.int .i32 loc, .int .i32 cl, .int .i32 loc2, .int .i32 cl2, .slice ka n c] w fun e w' => e = .returned (.bool true) ∧ Below w.heap.size w w' := by
  go_enter Try.func4, Try.ntmps4
  go_wp2_with (go_at_call 11; go_in)
  refine H.out.mono ?_
  rintro e w1 ⟨sl, rfl, hb1, h13⟩
  go_wp2_with fail
  refine h13.out.mono ?_
  rintro e w2 ⟨b, rfl, hb2, hlt, -⟩
  clear h13
  have hbel : Below w.heap.size w w2 := hb1.trans (hb2.mono hb1.size)
  have hz : w.heap.size ≤ w2.heap.size := hbel.size
  clear hb1 hb2 H
  go_wp2_with fail
  refine Calls.mono (keepIf loc2 cl2 l0 b _ _ (by simp) (by simp; omega) (by simp [go_sem]) (by simp [go_sem])) ?_
  rintro e w3 ⟨rfl, hb3⟩
  have r0 : w3.cell? ⟨w2.heap.size, 0, none⟩ = some (.iface 66 (.pointer (some ⟨b, 0, none⟩))) := cell_below hb3 (by simp <;> omega) (by simp [go_sem])
  have r1 : w3.cell? ⟨w2.heap.size, 1, none⟩ = some (.int .i32 l0) := cell_below hb3 (by simp <;> omega) (by simp [go_sem])
  have hz3 : w2.heap.size + 1 < w3.heap.size := by have := hb3.size; simp at this; omega
  have hbel3 : Below w.heap.size w w3 := Below.trans (Below.alloc (Below.alloc hbel hz _) (by simp; omega) _) (hb3.mono (by simp; omega))
  clear hb3 hbel
  go_wp2
  go_ret
  exact ⟨rfl, by go_grown⟩

set_option maxRecDepth 100000 in
theorem endBlock (loc cl loc2 cl2 l0 : Int) (ka : Option Addr) (n c : Nat) (hn : n ≤ 65536) (w : World)
    (H : Hid (Calls Try.prog 12 #[.slice ka n c] w (Stage 34 noKd loc cl l0 w))) :
    Calls Try.prog 4 #[.int .i32 loc, .int .i32 cl, .int .i32 loc2, .int .i32 cl2, .slice ka n c] w fun e w' => e = .returned (.bool true) ∧ Below w.heap.size w w' := by
  go_enter Try.func4, Try.ntmps4
  go_wp2_with (go_at_call 11; go_in)
  refine H.out.mono ?_
  rintro e w1 ⟨sl, rfl, hb1, h13⟩
  go_wp2_with fail
  refine h13.out.mono ?_
  rintro e w2 ⟨b, rfl, hb2, hlt, -⟩
  clear h13
  have hbel : Below w.heap.size w w2 := hb1.trans (hb2.mono hb1.size)
  have hz : w.heap.size ≤ w2.heap.size := hbel.size
  clear hb1 hb2 H
  go_wp2_with fail
  refine Calls.mono (keepBlock loc2 cl2 l0 b _ _ (by simp) (by simp; omega) (by simp [go_sem]) (by simp [go_sem])) ?_
  rintro e w3 ⟨rfl, hb3⟩
  have r0 : w3.cell? ⟨w2.heap.size, 0, none⟩ = some (.iface 34 (.pointer (some ⟨b, 0, none⟩))) := cell_below hb3 (by simp <;> omega) (by simp [go_sem])
  have r1 : w3.cell? ⟨w2.heap.size, 1, none⟩ = some (.int .i32 l0) := cell_below hb3 (by simp <;> omega) (by simp [go_sem])
  have hz3 : w2.heap.size + 1 < w3.heap.size := by have := hb3.size; simp at this; omega
  have hbel3 : Below w.heap.size w w3 := Below.trans (Below.alloc (Below.alloc hbel hz _) (by simp; omega) _) (hb3.mono (by simp; omega))
  clear hb3 hbel
  go_wp2
  go_ret
  exact ⟨rfl, by go_grown⟩

set_option maxRecDepth 100000 in
theorem endEmpty (loc cl loc2 cl2 l0 : Int) (ka : Option Addr) (n c : Nat) (hn : n ≤ 65536) (w : World)
    (H : Hid (Calls Try.prog 12 #[.slice ka n c] w (Stage 58 noKd loc cl l0 w))) :
    Calls Try.prog 4 #[.int .i32 loc, .int .i32 cl, .int .i32 loc2, .int .i32 cl2, .slice ka n c] w fun e w' => e = .returned (.bool true) ∧ Below w.heap.size w w' := by
  go_enter Try.func4, Try.ntmps4
  go_wp2_with (go_at_call 11; go_in)
  refine H.out.mono ?_
  rintro e w1 ⟨sl, rfl, hb1, h13⟩
  go_wp2_with fail
  refine h13.out.mono ?_
  rintro e w2 ⟨b, rfl, hb2, hlt, -⟩
  clear h13
  have hbel : Below w.heap.size w w2 := hb1.trans (hb2.mono hb1.size)
  have hz : w.heap.size ≤ w2.heap.size := hbel.size
  clear hb1 hb2 H
  go_wp2_with fail
  refine Calls.mono (keepEmpty loc2 cl2 l0 b _ _ (by simp) (by simp; omega) (by simp [go_sem]) (by simp [go_sem])) ?_
  rintro e w3 ⟨rfl, hb3⟩
  have r0 : w3.cell? ⟨w2.heap.size, 0, none⟩ = some (.iface 58 (.pointer (some ⟨b, 0, none⟩))) := cell_below hb3 (by simp <;> omega) (by simp [go_sem])
  have r1 : w3.cell? ⟨w2.heap.size, 1, none⟩ = some (.int .i32 l0) := cell_below hb3 (by simp <;> omega) (by simp [go_sem])
  have hz3 : w2.heap.size + 1 < w3.heap.size := by have := hb3.size; simp at this; omega
  have hbel3 : Below w.heap.size w w3 := Below.trans (Below.alloc (Below.alloc hbel hz _) (by simp; omega) _) (hb3.mono (by simp; omega))
  clear hb3 hbel
  go_wp2
  go_ret
  exact ⟨rfl, by go_grown⟩
end Go.Proofs.Ytcnfpoahlhlknaa.idem
