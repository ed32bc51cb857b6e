/- The law, walked whole. No condition. -/
import Derived.Test.YtkhmjppfogppoaaDoorCasN0
import Derived.Test.YtkhmjppfogppoaaDoorCasY0
import Derived.Test.YtkhmjppfogppoaaDoorCasN1
import Derived.Test.YtkhmjppfogppoaaDoorCasY1
import Derived.Test.YtkhmjppfogppoaaDoorCasN2f
import Derived.Test.YtkhmjppfogppoaaDoorCasN2t
import Derived.Test.YtkhmjppfogppoaaDoorCasN3f
import Derived.Test.YtkhmjppfogppoaaDoorCasN3t
namespace Go.Proofs.YtkhmjppfogppoaaDoor.Use
open Go.ChangeShapes Go.WideShapes Go.ChangeAt Go.RowKit Go.Sort Own
set_option linter.unusedVariables false
theorem kinds4 (kind : Int) (h : (Lit.int .u8 kind).wf = true) : kind.tmod 4 = 0 ∨ kind.tmod 4 = 1 ∨ kind.tmod 4 = 2 ∨ kind.tmod 4 = 3 := by
  simp only [Lit.wf, Bool.and_eq_true, decide_eq_true_eq] at h
  have h1 : (0 : Int) ≤ kind := h.1
  rw [Int.tmod_eq_emod_of_nonneg h1]
  omega
set_option maxRecDepth 100000 in
theorem law44 (kind : Int) (name : ByteArray) (nargs : Int) (l s r : Bool) (loc im : Int) (w : World) (hwf : (Lit.int .u8 kind).wf = true) (hg0 : w.cell? ⟨0, 0, none⟩ = some (.int .u32 4294967295)) (hg1 : w.cell? ⟨0, 1, none⟩ = some (.int .u32 4294967295)) : Calls Tryd.prog 7 #[.int .u8 kind, .string name, .int .i64 nargs, .bool l, .bool s, .bool r, .int .i32 loc, .int .u32 im] w fun e w' => e = .returned (.bool true) ∧ Below w.heap.size w w' := by
  by_cases hlen : name.size ≤ 65536
  · by_cases hn0 : nargs < 0
    · have hl9 : (name.size : Int) ≤ 65536 := by omega
      go_enter Tryd.func7, Tryd.ntmps7
      go_wp2_with (go_at_call 31; go_in)
      all_goals (go_returns; exact ⟨rfl, by go_grown⟩)
    · by_cases hn1 : (4096 : Int) < nargs
      · have hl9 : (name.size : Int) ≤ 65536 := by omega
        go_enter Tryd.func7, Tryd.ntmps7
        go_wp2_with (go_at_call 31; go_in)
        all_goals (go_returns; exact ⟨rfl, by go_grown⟩)
      · obtain ⟨n, rfl⟩ : ∃ n : Nat, nargs = (n : Int) := ⟨nargs.toNat, by omega⟩
        have hn : n ≤ 4096 := by omega
        rcases kinds4 kind hwf with hk | hk | hk | hk <;> cases l
        · exact Calls.mono (law44n0 kind name n s r loc im w w _ (Own.start w) hk hlen hn hg0 hg1) (fun e w' q => ⟨q.1, q.2.below⟩)
        · exact Calls.mono (law44y0 kind name n s r loc im w w _ (Own.start w) hk hlen hn hg0 hg1) (fun e w' q => ⟨q.1, q.2.below⟩)
        · exact Calls.mono (law44n1 kind name n s r loc im w w _ (Own.start w) hk hlen hn hg0 hg1) (fun e w' q => ⟨q.1, q.2.below⟩)
        · exact Calls.mono (law44y1 kind name n s r loc im w w _ (Own.start w) hk hlen hn hg0 hg1) (fun e w' q => ⟨q.1, q.2.below⟩)
        · exact Calls.mono (law44n2f kind name n s r loc im w w _ (Own.start w) hk hlen hn hg0 hg1) (fun e w' q => ⟨q.1, q.2.below⟩)
        · exact Calls.mono (law44n2t kind name n s r loc im w w _ (Own.start w) hk hlen hn hg0 hg1) (fun e w' q => ⟨q.1, q.2.below⟩)
        · exact Calls.mono (law44n3f kind name n s r loc im w w _ (Own.start w) hk hlen hn hg0 hg1) (fun e w' q => ⟨q.1, q.2.below⟩)
        · exact Calls.mono (law44n3t kind name n s r loc im w w _ (Own.start w) hk hlen hn hg0 hg1) (fun e w' q => ⟨q.1, q.2.below⟩)
  · have hl8 : (65536 : Int) < name.size := by omega
    by_cases hl7 : name.size ≤ 1048576
    · have hl9 : (name.size : Int) ≤ 1048576 := by omega
      go_enter Tryd.func7, Tryd.ntmps7
      go_wp2_with (go_at_call 31; go_in)
      all_goals (go_returns; exact ⟨rfl, by go_grown⟩)
    · have hl9 : (1048576 : Int) < name.size := by omega
      go_enter Tryd.func7, Tryd.ntmps7
      go_wp2_with (go_at_call 31; go_in)
      all_goals (go_returns; exact ⟨rfl, by go_grown⟩)

end Go.Proofs.YtkhmjppfogppoaaDoor.Use
