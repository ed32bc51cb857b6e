/- The law on the names of temporaries, walked whole. No condition. -/
import Derived.Test.YtkmojepgbbdeiaaDoorNam
namespace Go.Proofs.YtkmojepgbbdeiaaDoor.Use
open Go.ChangeShapes Go.WideShapes Go.ChangeAt Go.RowKit Go.Sort Own
set_option linter.unusedVariables false
set_option maxRecDepth 100000 in
set_option maxHeartbeats 1000000 in
theorem law41w (src : Int) (a : Option Addr) (n cp : Nat) (B : Nat → Bool) (s : Int) (w : World) (ha : (a = none ∧ n = 0 ∧ cp = 0) ∨ ∃ x, a = some x ∧ n ≤ cp ∧ cp ≤ maxLen ∧ ∀ i, i < n → w.cell? (x.add i) = some (.bool (B i))) (hg0 : w.cell? ⟨0, 0, none⟩ = some (.int .u32 4294967295)) (hg1 : w.cell? ⟨0, 1, none⟩ = some (.int .u32 4294967295)) : Calls Tryd.prog 4 #[.int .u32 src, .slice a n cp, .int .i64 s] w fun e w' => e = .returned (.bool true) ∧ Below w.heap.size w w' := by
  have hB : ∀ i, i < n → ∃ sa, a = some sa ∧ w.cell? (sa.add i) = some (.bool (B i)) := by
    intro i hi
    rcases ha with ⟨-, rfl, -⟩ | ⟨x, h1, -, -, h2⟩
    · omega
    · exact ⟨x, h1, h2 i hi⟩
  clear ha
  by_cases hn6 : n ≤ 1048576
  · have hn8 : (n : Int) ≤ 1048576 := by omega
    by_cases hn : n ≤ 4096
    · have hn9 : (n : Int) ≤ 4096 := by omega
      by_cases hs0 : s < 0
      · go_enter Tryd.func4, Tryd.ntmps4
        go_wp2_with (first | (go_at_call 17; go_in))
        all_goals (go_ret; exact ⟨rfl, Below.refl _ _⟩)
      by_cases hs1 : (65536 : Int) < s
      · go_enter Tryd.func4, Tryd.ntmps4
        go_wp2_with (first | (go_at_call 17; go_in))
        all_goals (go_ret; exact ⟨rfl, Below.refl _ _⟩)
      obtain ⟨b, rfl⟩ : ∃ b : Nat, s = (b : Int) := ⟨s.toNat, by omega⟩
      exact Calls.mono (law41 src a n cp B b w w _ (Own.start w) hn hB (by omega) hg0 hg1) (fun e w' q => ⟨q.1, q.2.below⟩)
    · have hn7 : (4096 : Int) < n := by omega
      go_enter Tryd.func4, Tryd.ntmps4
      go_wp2_with (first | (go_at_call 17; go_in))
      all_goals (go_ret; exact ⟨rfl, Below.refl _ _⟩)
  · have hn9 : (1048576 : Int) < n := by omega
    go_enter Tryd.func4, Tryd.ntmps4
    go_wp2_with (first | (go_at_call 17; go_in))
    all_goals (go_ret; exact ⟨rfl, Below.refl _ _⟩)

end Go.Proofs.YtkmojepgbbdeiaaDoor.Use
