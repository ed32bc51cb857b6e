/- The law on top-level temporaries, walked whole. No condition. -/
import Derived.Test.YtkmojepgbbdeiaaDoorScrF0
import Derived.Test.YtkmojepgbbdeiaaDoorScrF1
import Derived.Test.YtkmojepgbbdeiaaDoorScrT0
import Derived.Test.YtkmojepgbbdeiaaDoorScrT1
namespace Go.Proofs.YtkmojepgbbdeiaaDoor.Use
open Go.ChangeShapes Go.WideShapes Go.ChangeAt Go.RowKit Go.Sort Own
set_option linter.unusedVariables false
set_option maxRecDepth 100000 in
theorem law7 (src k n : Int) (ts : Bool) (w : World) (hg0 : w.cell? ⟨0, 0, none⟩ = some (.int .u32 4294967295)) (hg1 : w.cell? ⟨0, 1, none⟩ = some (.int .u32 4294967295)) : Calls Tryd.prog 3 #[.int .u32 src, .int .i64 k, .int .i64 n, .bool ts] w fun e w' => e = .returned (.bool true) ∧ Below w.heap.size w w' := by
  by_cases hc0 : k < 0
  · go_enter Tryd.func3, Tryd.ntmps3
    go_wp2
    all_goals (go_ret; exact ⟨rfl, Below.refl _ _⟩)
  by_cases hc1 : (4096 : Int) < k
  · go_enter Tryd.func3, Tryd.ntmps3
    go_wp2
    all_goals (go_ret; exact ⟨rfl, Below.refl _ _⟩)
  by_cases hc2 : n < 0
  · go_enter Tryd.func3, Tryd.ntmps3
    go_wp2
    all_goals (go_ret; exact ⟨rfl, Below.refl _ _⟩)
  by_cases hc3 : (65536 : Int) < n
  · go_enter Tryd.func3, Tryd.ntmps3
    go_wp2
    all_goals (go_ret; exact ⟨rfl, Below.refl _ _⟩)
  obtain ⟨a, rfl⟩ : ∃ a : Nat, k = (a : Int) := ⟨k.toNat, by omega⟩
  obtain ⟨b, rfl⟩ : ∃ b : Nat, n = (b : Int) := ⟨n.toNat, by omega⟩
  have ha : a ≤ 4096 := by omega
  have hb : b ≤ 65536 := by omega
  by_cases h0 : a = 0
  · subst h0
    cases ts
    · exact Calls.mono (law7F0 src b w w _ (Own.start w) hb hg0 hg1) (fun e w' q => ⟨q.1, q.2.below⟩)
    · exact Calls.mono (law7T0 src b w w _ (Own.start w) hb hg0 hg1) (fun e w' q => ⟨q.1, q.2.below⟩)
  · have h1 : 0 < a := by omega
    cases ts
    · exact Calls.mono (law7F1 src a b w w _ (Own.start w) ha h1 hb hg0 hg1) (fun e w' q => ⟨q.1, q.2.below⟩)
    · exact Calls.mono (law7T1 src a b w w _ (Own.start w) ha h1 hb hg0 hg1) (fun e w' q => ⟨q.1, q.2.below⟩)

end Go.Proofs.YtkmojepgbbdeiaaDoor.Use
