/- The law, walked whole. No condition. -/
import Derived.Test.YtkhmjppfogppoaaGreatDoorOpTab
namespace Go.Proofs.YtkhmjppfogppoaaGreatDoor.Use
open Go.ChangeShapes Go.WideShapes Go.ChangeAt Go.RowKit Go.Sort Own
set_option linter.unusedVariables false
theorem wrap8 {n : Int} (h : (Lit.int .u8 n).wf = true) : IntKind.u8.wrap n = n := by
  simp only [Lit.wf, Bool.and_eq_true, decide_eq_true_eq] at h
  have h1 : (0 : Int) ≤ n := h.1
  have h2 : n ≤ 255 := h.2
  rw [IntKind.wrap_u8]
  omega
set_option maxRecDepth 100000 in
theorem law27w (loc : Int) (key : ByteArray) (op : Int) (s r : Bool) (vm : Int) (w : World) (hop : (Lit.int .u8 op).wf = true) (hg0 : w.cell? ⟨0, 0, none⟩ = some (.int .u32 4294967295)) (hg1 : w.cell? ⟨0, 1, none⟩ = some (.int .u32 4294967295)) : Calls Tryz.prog 5 #[.int .i32 loc, .string key, .int .u8 op, .bool s, .bool r, .int .u32 vm] w fun e w' => e = .returned (.bool true) ∧ Below w.heap.size w w' := by
  by_cases hlen : key.size ≤ 65536
  · exact Calls.mono (law27 loc key op s r vm w w _ (Own.start w) hlen (wrap8 hop) hg0 hg1) (fun e w' q => ⟨q.1, q.2.below⟩)
  · have hl8 : (65536 : Int) < key.size := by omega
    by_cases hl7 : key.size ≤ 1048576
    · have hl9 : (key.size : Int) ≤ 1048576 := by omega
      go_enter Tryz.func5, Tryz.ntmps5
      go_wp2_with (go_at_call 18; go_in)
      all_goals (go_returns; exact ⟨rfl, by go_grown⟩)
    · have hl9 : (1048576 : Int) < key.size := by omega
      go_enter Tryz.func5, Tryz.ntmps5
      go_wp2_with (go_at_call 18; go_in)
      all_goals (go_returns; exact ⟨rfl, by go_grown⟩)

end Go.Proofs.YtkhmjppfogppoaaGreatDoor.Use
