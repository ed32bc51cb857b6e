/- The law, walked whole. No condition. -/
import Derived.Test.YtkhmjppfogppoaaDoorIdmY
import Derived.Test.YtkhmjppfogppoaaDoorIdmN0
import Derived.Test.YtkhmjppfogppoaaDoorIdmN1
namespace Go.Proofs.YtkhmjppfogppoaaDoor.Use
open Go.ChangeShapes Go.WideShapes Go.ChangeAt Go.RowKit Go.Sort Own
set_option linter.unusedVariables false
theorem kinds (kind : Int) (h : (Lit.int .u8 kind).wf = true) : ∃ k1 k0 : Bool, kind.tmod 4 = kn k1 k0 := by
  simp only [Lit.wf, Bool.and_eq_true, decide_eq_true_eq] at h
  have h1 : (0 : Int) ≤ kind := h.1
  rw [Int.tmod_eq_emod_of_nonneg h1]
  have hm : kind % 4 = 0 ∨ kind % 4 = 1 ∨ kind % 4 = 2 ∨ kind % 4 = 3 := by omega
  rcases hm with h | h | h | h <;> rw [h]
  · exact ⟨false, false, rfl⟩
  · exact ⟨false, true, rfl⟩
  · exact ⟨true, false, rfl⟩
  · exact ⟨true, true, rfl⟩
set_option maxRecDepth 100000 in
theorem law26 (kind : Int) (name : ByteArray) (nargs : Int) (l s r : Bool) (loc im : Int) (w : World) (hwf : (Lit.int .u8 kind).wf = true) (hg0 : w.cell? ⟨0, 0, none⟩ = some (.int .u32 4294967295)) (hg1 : w.cell? ⟨0, 1, none⟩ = some (.int .u32 4294967295)) : Calls Tryd.prog 6 #[.int .u8 kind, .string name, .int .i64 nargs, .bool l, .bool s, .bool r, .int .i32 loc, .int .u32 im] w fun e w' => e = .returned (.bool true) ∧ Below w.heap.size w w' := by
  by_cases hlen : name.size ≤ 65536
  · by_cases hn0 : nargs < 0
    · have hl9 : (name.size : Int) ≤ 65536 := by omega
      go_enter Tryd.func6, Tryd.ntmps6
      go_wp2_with (go_at_call 27; go_in)
      all_goals (go_returns; exact ⟨rfl, by go_grown⟩)
    · by_cases hn1 : (4096 : Int) < nargs
      · have hl9 : (name.size : Int) ≤ 65536 := by omega
        go_enter Tryd.func6, Tryd.ntmps6
        go_wp2_with (go_at_call 27; go_in)
        all_goals (go_returns; exact ⟨rfl, by go_grown⟩)
      · obtain ⟨n, rfl⟩ : ∃ n : Nat, nargs = (n : Int) := ⟨nargs.toNat, by omega⟩
        have hn : n ≤ 4096 := by omega
        obtain ⟨k1, k0, hkd⟩ := kinds kind hwf
        by_cases hy : (l && !k1) = true
        · obtain ⟨rfl, rfl⟩ : l = true ∧ k1 = false := by simpa using hy
          exact Calls.mono (law26y kind name n k0 s r loc im w w _ (Own.start w) hkd hlen hn hg0 hg1) (fun e w' q => ⟨q.1, q.2.below⟩)
        · cases k0
          · exact Calls.mono (law26n0 kind name n l k1 s r loc im w w _ (Own.start w) hkd hlen hn (by simpa using hy) hg0 hg1) (fun e w' q => ⟨q.1, q.2.below⟩)
          · exact Calls.mono (law26n1 kind name n l k1 s r loc im w w _ (Own.start w) hkd hlen hn (by simpa using hy) hg0 hg1) (fun e w' q => ⟨q.1, q.2.below⟩)
  · have hl8 : (65536 : Int) < name.size := by omega
    by_cases hl7 : name.size ≤ 1048576
    · have hl9 : (name.size : Int) ≤ 1048576 := by omega
      go_enter Tryd.func6, Tryd.ntmps6
      go_wp2_with (go_at_call 27; go_in)
      all_goals (go_returns; exact ⟨rfl, by go_grown⟩)
    · have hl9 : (1048576 : Int) < name.size := by omega
      go_enter Tryd.func6, Tryd.ntmps6
      go_wp2_with (go_at_call 27; go_in)
      all_goals (go_returns; exact ⟨rfl, by go_grown⟩)

end Go.Proofs.YtkhmjppfogppoaaDoor.Use
