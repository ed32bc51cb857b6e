/- The law on generateTempRef, walked whole. No condition. -/
import Derived.Test.YtkmojepgbbdeiaaDoorHd48A
import Derived.Test.YtkmojepgbbdeiaaDoorHd48B
import Derived.Test.YtkmojepgbbdeiaaDoorHd48C
import Derived.Test.YtkmojepgbbdeiaaDoorHd48D
namespace Go.Proofs.YtkmojepgbbdeiaaDoor.Use
open Go.ChangeShapes Go.WideShapes Go.ChangeAt Go.RowKit Go.Sort Own
set_option linter.unusedVariables false
set_option maxRecDepth 100000 in
set_option maxHeartbeats 2000000 in
theorem law48w (src d m : Int) (nm : ByteArray) (t n : Int) (ts : Bool) (w : World) (hg0 : w.cell? ⟨0, 0, none⟩ = some (.int .u32 4294967295)) (hg1 : w.cell? ⟨0, 1, none⟩ = some (.int .u32 4294967295)) : Calls Tryd.prog 5 #[.int .u32 src, .int .i64 d, .int .i64 m, .string nm, .int .i64 t, .int .i64 n, .bool ts] w fun e w' => e = .returned (.bool true) ∧ Below w.heap.size w w' := by
  by_cases hl : nm.size ≤ 1048576
  · have hl9 : (nm.size : Int) ≤ 1048576 := by omega
    have hl8 : (0 : Int) ≤ (nm.size : Int) := by omega
    by_cases hd0 : d < 0
    · go_enter Tryd.func5, Tryd.ntmps5
      go_wp2_with (first | (go_at_call 22; go_in))
      all_goals (go_ret; exact ⟨rfl, Below.refl _ _⟩)
    by_cases hd1 : (4096 : Int) < d
    · go_enter Tryd.func5, Tryd.ntmps5
      go_wp2_with (first | (go_at_call 22; go_in))
      all_goals (go_ret; exact ⟨rfl, Below.refl _ _⟩)
    by_cases hm0 : m < 0
    · go_enter Tryd.func5, Tryd.ntmps5
      go_wp2_with (first | (go_at_call 22; go_in))
      all_goals (go_ret; exact ⟨rfl, Below.refl _ _⟩)
    by_cases hm1 : (2 : Int) < m
    · go_enter Tryd.func5, Tryd.ntmps5
      go_wp2_with (first | (go_at_call 22; go_in))
      all_goals (go_ret; exact ⟨rfl, Below.refl _ _⟩)
    by_cases ht0 : t < 0
    · go_enter Tryd.func5, Tryd.ntmps5
      go_wp2_with (first | (go_at_call 22; go_in))
      all_goals (go_ret; exact ⟨rfl, Below.refl _ _⟩)
    by_cases ht1 : (65536 : Int) < t
    · go_enter Tryd.func5, Tryd.ntmps5
      go_wp2_with (first | (go_at_call 22; go_in))
      all_goals (go_ret; exact ⟨rfl, Below.refl _ _⟩)
    by_cases hn0 : n < 0
    · go_enter Tryd.func5, Tryd.ntmps5
      go_wp2_with (first | (go_at_call 22; go_in))
      all_goals (go_ret; exact ⟨rfl, Below.refl _ _⟩)
    by_cases hn1 : (65536 : Int) < n
    · go_enter Tryd.func5, Tryd.ntmps5
      go_wp2_with (first | (go_at_call 22; go_in))
      all_goals (go_ret; exact ⟨rfl, Below.refl _ _⟩)
    obtain ⟨b, rfl⟩ : ∃ a : Nat, d = (a : Int) := ⟨d.toNat, by omega⟩
    obtain ⟨t2, rfl⟩ : ∃ a : Nat, t = (a : Int) := ⟨t.toNat, by omega⟩
    obtain ⟨n2, rfl⟩ : ∃ a : Nat, n = (a : Int) := ⟨n.toNat, by omega⟩
    have hb4 : b ≤ 4096 := by omega
    have ht4 : t2 ≤ 65536 := by omega
    have hn4 : n2 ≤ 65536 := by omega
    have hl4 : nm.size ≤ 1048576 := hl
    by_cases e0 : m = 0
    · subst e0
      exact Calls.mono (hd48A src b nm t2 n2 ts w w _ (Own.start w) hb4 hl4 ht4 hn4 hg0 hg1) (fun e w' q => ⟨q.1, q.2.below⟩)
    by_cases e1 : m = 1
    · subst e1
      exact Calls.mono (hd48B src b nm t2 n2 ts w w _ (Own.start w) hb4 hl4 ht4 hn4 hg0 hg1) (fun e w' q => ⟨q.1, q.2.below⟩)
    obtain rfl : m = 2 := by omega
    by_cases hb0 : b = 0
    · subst hb0
      exact Calls.mono (hd48C src nm t2 n2 ts w w _ (Own.start w) hl4 ht4 hn4 hg0 hg1) (fun e w' q => ⟨q.1, q.2.below⟩)
    · have hb1 : 0 < b := by omega
      exact Calls.mono (hd48D src b nm t2 n2 ts w w _ (Own.start w) hb4 hb1 hl4 ht4 hn4 hg0 hg1) (fun e w' q => ⟨q.1, q.2.below⟩)
  · have hl9 : (1048576 : Int) < (nm.size : Int) := by omega
    go_enter Tryd.func5, Tryd.ntmps5
    go_wp2_with (first | (go_at_call 22; go_in))
    all_goals (go_ret; exact ⟨rfl, Below.refl _ _⟩)

end Go.Proofs.YtkmojepgbbdeiaaDoor.Use
