/- Row 46: the law, walked whole. No condition. -/
import Derived.Test.YtikopplofkemlaaDoorHd460
import Derived.Test.YtikopplofkemlaaDoorHd461
namespace Go.Proofs.YtikopplofkemlaaDoor.Use
open Go.ChangeShapes Go.WideShapes Go.ChangeAt Go.RowKit Go.Sort Own
set_option linter.unusedVariables false
set_option maxRecDepth 100000 in
set_option maxHeartbeats 2000000 in
theorem law46w (nm : ByteArray) (sh nb : Int) (aw : Bool) (w : World) (hwf : (Lit.int .u8 sh).wf = true) (hg0 : w.cell? ⟨0, 0, none⟩ = some (vU 4294967295)) (hg1 : w.cell? ⟨0, 1, none⟩ = some (vU 4294967295)) : Calls Tryd.prog 5 #[.string nm, .int .u8 sh, .int .i64 nb, .bool aw] w fun e w' => e = .returned (.bool true) ∧ Below w.heap.size w w' := by
 by_cases hl : nm.size ≤ 1048576
 ·have hl9 : (nm.size : Int) ≤ 1048576 := by omega
  have hl8 : (0 : Int) ≤ (nm.size : Int) := by omega
  by_cases hm : nm.size ≤ 65536
  ·have hm9 : (nm.size : Int) ≤ 65536 := by omega
   by_cases hn0 : nb < 0
   ·go_enter Tryd.func5, Tryd.ntmps5
    go_wp2_with (first | (go_at_call 26; go_in))
    all_goals (go_ret; exact ⟨rfl, Below.refl _ _⟩)
   by_cases hn1 : (4096 : Int) < nb
   ·go_enter Tryd.func5, Tryd.ntmps5
    go_wp2_with (first | (go_at_call 26; go_in))
    all_goals (go_ret; exact ⟨rfl, Below.refl _ _⟩)
   have h9 := hwf
   simp only [Lit.wf, Bool.and_eq_true, decide_eq_true_eq] at h9
   have h10 : IntKind.u8.min = 0 := rfl
   obtain ⟨s, rfl⟩ : ∃ a : Nat, sh = (a : Int) := ⟨sh.toNat, by omega⟩
   obtain ⟨n, rfl⟩ : ∃ a : Nat, nb = (a : Int) := ⟨nb.toNat, by omega⟩
   have hn4 : n ≤ 4096 := by omega
   cases aw
   ·exact Calls.mono (law46h0 nm s n w w _ (Own.start w) hm hn4 hg0 hg1) fun e w' q => ⟨q.1, q.2.below⟩
   ·exact Calls.mono (law46h1 nm s n w w _ (Own.start w) hm hn4 hg0 hg1) fun e w' q => ⟨q.1, q.2.below⟩
  ·have hm9 : (65536 : Int) < (nm.size : Int) := by omega
   go_enter Tryd.func5, Tryd.ntmps5
   go_wp2_with (first | (go_at_call 26; go_in))
   all_goals (go_ret; exact ⟨rfl, Below.refl _ _⟩)
 ·have hl9 : (1048576 : Int) < (nm.size : Int) := by omega
  go_enter Tryd.func5, Tryd.ntmps5
  go_wp2_with (first | (go_at_call 26; go_in))
  all_goals (go_ret; exact ⟨rfl, Below.refl _ _⟩)

end Go.Proofs.YtikopplofkemlaaDoor.Use
