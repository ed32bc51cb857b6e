/- The law, walked whole. No condition. -/
import Derived.Test.YtcbdjbjbikiaeaaDoorLaw5o
import Derived.Test.YtcbdjbjbikiaeaaDoorLaw5la
import Derived.Test.YtcbdjbjbikiaeaaDoorLaw5lb
namespace Go.Proofs.YtcbdjbjbikiaeaaDoor.Use
open Go.ChangeShapes Go.WideShapes Go.ChangeAt Go.RowKit Go.Sort Own
set_option linter.unusedVariables false
theorem u8lo {a : Int} (h : (Lit.int .u8 a).wf = true) : 0 ≤ a := by
  unfold Lit.wf at h
  rw [Bool.and_eq_true, decide_eq_true_eq, decide_eq_true_eq] at h
  exact h.1
set_option maxRecDepth 100000 in
theorem law5 (l r s : Bool) (kd : Int) (ix : Bool) (loc : Int) (nm : ByteArray) (w : World) (h0 : 0 ≤ kd) : Calls Tryd.prog 3 #[.bool l, .bool r, .bool s, .int .u8 kd, .bool ix, .int .i32 loc, .string nm] w fun e w' => e = .returned (.bool true) ∧ Below w.heap.size w w' := by
  have he : kd.tmod 6 = kd % 6 := Int.tmod_eq_emod_of_nonneg h0
  by_cases hlen : nm.size ≤ 65536
  · have h6 : kd % 6 = 0 ∨ kd % 6 = 1 ∨ kd % 6 = 2 ∨ kd % 6 = 3 ∨ kd % 6 = 4 ∨ kd % 6 = 5 := by omega
    cases l <;> cases ix <;> rcases h6 with h | h | h | h | h | h
    · exact Calls.mono (law5o0d r s kd loc nm w w _ (Own.start w) hlen (by rw [he, h]; rfl)) (fun e w' q => ⟨q.1, q.2.below⟩)
    · exact Calls.mono (law5o1d r s kd loc nm w w _ (Own.start w) hlen (by rw [he, h]; rfl) (by rw [he, h]; rfl)) (fun e w' q => ⟨q.1, q.2.below⟩)
    · exact Calls.mono (law5o2d r s kd loc nm w w _ (Own.start w) hlen (by rw [he, h]; rfl) (by rw [he, h]; rfl) (by rw [he, h]; rfl)) (fun e w' q => ⟨q.1, q.2.below⟩)
    · exact Calls.mono (law5o3d r s kd loc nm w w _ (Own.start w) hlen (by rw [he, h]; rfl) (by rw [he, h]; rfl) (by rw [he, h]; rfl) (by rw [he, h]; rfl)) (fun e w' q => ⟨q.1, q.2.below⟩)
    · exact Calls.mono (law5o4d r s kd loc nm w w _ (Own.start w) hlen (by rw [he, h]; rfl) (by rw [he, h]; rfl) (by rw [he, h]; rfl) (by rw [he, h]; rfl) (by rw [he, h]; rfl)) (fun e w' q => ⟨q.1, q.2.below⟩)
    · exact Calls.mono (law5o5d r s kd loc nm w w _ (Own.start w) hlen (by rw [he, h]; rfl) (by rw [he, h]; rfl) (by rw [he, h]; rfl) (by rw [he, h]; rfl) (by rw [he, h]; rfl)) (fun e w' q => ⟨q.1, q.2.below⟩)
    · exact Calls.mono (law5o0x r s kd loc nm w w _ (Own.start w) hlen (by rw [he, h]; rfl)) (fun e w' q => ⟨q.1, q.2.below⟩)
    · exact Calls.mono (law5o1x r s kd loc nm w w _ (Own.start w) hlen (by rw [he, h]; rfl) (by rw [he, h]; rfl)) (fun e w' q => ⟨q.1, q.2.below⟩)
    · exact Calls.mono (law5o2x r s kd loc nm w w _ (Own.start w) hlen (by rw [he, h]; rfl) (by rw [he, h]; rfl) (by rw [he, h]; rfl)) (fun e w' q => ⟨q.1, q.2.below⟩)
    · exact Calls.mono (law5o3x r s kd loc nm w w _ (Own.start w) hlen (by rw [he, h]; rfl) (by rw [he, h]; rfl) (by rw [he, h]; rfl) (by rw [he, h]; rfl)) (fun e w' q => ⟨q.1, q.2.below⟩)
    · exact Calls.mono (law5o4x r s kd loc nm w w _ (Own.start w) hlen (by rw [he, h]; rfl) (by rw [he, h]; rfl) (by rw [he, h]; rfl) (by rw [he, h]; rfl) (by rw [he, h]; rfl)) (fun e w' q => ⟨q.1, q.2.below⟩)
    · exact Calls.mono (law5o5x r s kd loc nm w w _ (Own.start w) hlen (by rw [he, h]; rfl) (by rw [he, h]; rfl) (by rw [he, h]; rfl) (by rw [he, h]; rfl) (by rw [he, h]; rfl)) (fun e w' q => ⟨q.1, q.2.below⟩)
    · cases r <;> cases s
      · exact Calls.mono (law5l0dni kd loc nm w w _ (Own.start w) hlen (by rw [he, h]; rfl)) (fun e w' q => ⟨q.1, q.2.below⟩)
      · exact Calls.mono (law5l0dns kd loc nm w w _ (Own.start w) hlen (by rw [he, h]; rfl)) (fun e w' q => ⟨q.1, q.2.below⟩)
      · exact Calls.mono (law5l0dri kd loc nm w w _ (Own.start w) hlen (by rw [he, h]; rfl)) (fun e w' q => ⟨q.1, q.2.below⟩)
      · exact Calls.mono (law5l0drs kd loc nm w w _ (Own.start w) hlen (by rw [he, h]; rfl)) (fun e w' q => ⟨q.1, q.2.below⟩)
    · exact Calls.mono (law5l1d r s kd loc nm w w _ (Own.start w) hlen (by rw [he, h]; rfl) (by rw [he, h]; rfl)) (fun e w' q => ⟨q.1, q.2.below⟩)
    · exact Calls.mono (law5l2d r s kd loc nm w w _ (Own.start w) hlen (by rw [he, h]; rfl) (by rw [he, h]; rfl) (by rw [he, h]; rfl)) (fun e w' q => ⟨q.1, q.2.below⟩)
    · exact Calls.mono (law5l3d r s kd loc nm w w _ (Own.start w) hlen (by rw [he, h]; rfl) (by rw [he, h]; rfl) (by rw [he, h]; rfl) (by rw [he, h]; rfl)) (fun e w' q => ⟨q.1, q.2.below⟩)
    · exact Calls.mono (law5l4d r s kd loc nm w w _ (Own.start w) hlen (by rw [he, h]; rfl) (by rw [he, h]; rfl) (by rw [he, h]; rfl) (by rw [he, h]; rfl) (by rw [he, h]; rfl)) (fun e w' q => ⟨q.1, q.2.below⟩)
    · exact Calls.mono (law5l5d r s kd loc nm w w _ (Own.start w) hlen (by rw [he, h]; rfl) (by rw [he, h]; rfl) (by rw [he, h]; rfl) (by rw [he, h]; rfl) (by rw [he, h]; rfl)) (fun e w' q => ⟨q.1, q.2.below⟩)
    · cases r <;> cases s
      · exact Calls.mono (law5l0xni kd loc nm w w _ (Own.start w) hlen (by rw [he, h]; rfl)) (fun e w' q => ⟨q.1, q.2.below⟩)
      · exact Calls.mono (law5l0xns kd loc nm w w _ (Own.start w) hlen (by rw [he, h]; rfl)) (fun e w' q => ⟨q.1, q.2.below⟩)
      · exact Calls.mono (law5l0xri kd loc nm w w _ (Own.start w) hlen (by rw [he, h]; rfl)) (fun e w' q => ⟨q.1, q.2.below⟩)
      · exact Calls.mono (law5l0xrs kd loc nm w w _ (Own.start w) hlen (by rw [he, h]; rfl)) (fun e w' q => ⟨q.1, q.2.below⟩)
    · exact Calls.mono (law5l1x r s kd loc nm w w _ (Own.start w) hlen (by rw [he, h]; rfl) (by rw [he, h]; rfl)) (fun e w' q => ⟨q.1, q.2.below⟩)
    · exact Calls.mono (law5l2x r s kd loc nm w w _ (Own.start w) hlen (by rw [he, h]; rfl) (by rw [he, h]; rfl) (by rw [he, h]; rfl)) (fun e w' q => ⟨q.1, q.2.below⟩)
    · exact Calls.mono (law5l3x r s kd loc nm w w _ (Own.start w) hlen (by rw [he, h]; rfl) (by rw [he, h]; rfl) (by rw [he, h]; rfl) (by rw [he, h]; rfl)) (fun e w' q => ⟨q.1, q.2.below⟩)
    · exact Calls.mono (law5l4x r s kd loc nm w w _ (Own.start w) hlen (by rw [he, h]; rfl) (by rw [he, h]; rfl) (by rw [he, h]; rfl) (by rw [he, h]; rfl) (by rw [he, h]; rfl)) (fun e w' q => ⟨q.1, q.2.below⟩)
    · exact Calls.mono (law5l5x r s kd loc nm w w _ (Own.start w) hlen (by rw [he, h]; rfl) (by rw [he, h]; rfl) (by rw [he, h]; rfl) (by rw [he, h]; rfl) (by rw [he, h]; rfl)) (fun e w' q => ⟨q.1, q.2.below⟩)
  · have hl8 : (65536 : Int) < nm.size := by omega
    by_cases hl7 : nm.size ≤ 1048576
    · have hl9 : (nm.size : Int) ≤ 1048576 := by omega
      go_enter Tryd.func3, Tryd.ntmps3
      go_wp2_with (go_at_call 7; go_in)
      all_goals (go_returns; exact ⟨rfl, by go_grown⟩)
    · have hl9 : (1048576 : Int) < nm.size := by omega
      go_enter Tryd.func3, Tryd.ntmps3
      go_wp2_with (go_at_call 7; go_in)
      all_goals (go_returns; exact ⟨rfl, by go_grown⟩)

end Go.Proofs.YtcbdjbjbikiaeaaDoor.Use
