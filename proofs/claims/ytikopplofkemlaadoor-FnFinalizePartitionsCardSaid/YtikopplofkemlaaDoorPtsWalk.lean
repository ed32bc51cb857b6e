/- Row 47: the law on finalize, walked whole. No condition. -/
import Derived.Test.YtikopplofkemlaaDoorHd470
import Derived.Test.YtikopplofkemlaaDoorHd471
import Derived.Test.YtikopplofkemlaaDoorHn470
import Derived.Test.YtikopplofkemlaaDoorHn471
namespace Go.Proofs.YtikopplofkemlaaDoor.Use
open Go.ChangeShapes Go.WideShapes Go.ChangeAt Go.RowKit Go.Sort Own
set_option linter.unusedVariables false
set_option maxRecDepth 100000 in
set_option maxHeartbeats 1000000 in
theorem law47w (a : Option Addr) (n cp : Nat) (z : List Int) (hst aw : Bool) (w : World) (hg0 : w.cell? ⟨0, 0, none⟩ = some (.int .u32 4294967295)) (hg1 : w.cell? ⟨0, 1, none⟩ = some (.int .u32 4294967295)) (hr : (a = none ∧ n = 0 ∧ cp = 0 ∧ z = []) ∨ ∃ x, a = some x ∧ n ≤ cp ∧ cp ≤ maxLen ∧ z.length = cp ∧ (∀ i, i < z.length → w.cell? (x.add i) = some (.int .u8 (z.getD i 0))) ∧ ∀ q ∈ z, (Lit.int .u8 q).wf = true) : Calls Tryd.prog 6 #[.slice a n cp, .bool hst, .bool aw] w fun e w' => e = .returned (.bool true) ∧ Below w.heap.size w w' := by
  rcases hr with ⟨rfl, rfl, rfl, rfl⟩ | ⟨x, rfl, hnc, -, hz, hc, hwf⟩
  · cases aw
    · exact Calls.mono (law47n0 hst w w _ (Own.start w) hg0 hg1) fun e w' q => ⟨q.1, q.2.below⟩
    · exact Calls.mono (law47n1 hst w w _ (Own.start w) hg0 hg1) fun e w' q => ⟨q.1, q.2.below⟩
  by_cases hn6 : n ≤ 1048576
  · have hn8 : (n : Int) ≤ 1048576 := by omega
    by_cases hn : n ≤ 4096
    · have hb : ∀ i, i < n → 0 ≤ z.getD i 0 ∧ z.getD i 0 < 256 := by
        intro i hi
        have hiz : i < z.length := by omega
        have hm : z.getD i 0 ∈ z := by
          rw [List.getD_eq_getElem?_getD, List.getElem?_eq_getElem hiz]
          exact List.getElem_mem hiz
        have h9 := hwf _ hm
        simp only [Lit.wf, Bool.and_eq_true, decide_eq_true_eq] at h9
        have h10 : IntKind.u8.min = 0 := rfl
        have h11 : IntKind.u8.max = 255 := rfl
        omega
      have hB : ∀ i, i < n → w.cell? (x.add i) = some (.int .u8 (((z.getD i 0).toNat : Nat) : Int)) := by
        intro i hi
        rw [hc i (by omega), Int.toNat_of_nonneg (hb i hi).1]
      have hu : ∀ i : Nat, i < n → (z.getD i 0).toNat < 256 := by
        intro i hi
        have := hb i hi
        omega
      cases aw
      · exact Calls.mono (law47s0 x n cp (fun i => (z.getD i 0).toNat) hst w w _ (Own.start w) hn hB hu hg0 hg1) fun e w' q => ⟨q.1, q.2.below⟩
      · exact Calls.mono (law47s1 x n cp (fun i => (z.getD i 0).toNat) hst w w _ (Own.start w) hn hB hu hg0 hg1) fun e w' q => ⟨q.1, q.2.below⟩
    · have hn7 : (4096 : Int) < (n : Int) := by omega
      go_enter Tryd.func6, Tryd.ntmps6
      go_wp2_with (first | (go_at_call 30; go_in))
      all_goals (go_ret; exact ⟨rfl, Below.refl _ _⟩)
  · have hn9 : (1048576 : Int) < (n : Int) := by omega
    go_enter Tryd.func6, Tryd.ntmps6
    go_wp2_with (first | (go_at_call 30; go_in))
    all_goals (go_ret; exact ⟨rfl, Below.refl _ _⟩)

end Go.Proofs.YtikopplofkemlaaDoor.Use
