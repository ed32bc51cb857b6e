/- The law on name capture under re-enabling, walked whole. No condition. -/
import Derived.Test.YtaoflhnkhgclhaaDoorStaA
import Derived.Test.YtaoflhnkhgclhaaDoorStaB
import Derived.Test.YtaoflhnkhgclhaaDoorStaC
import Derived.Test.YtaoflhnkhgclhaaDoorStaD
import Derived.Test.YtaoflhnkhgclhaaDoorStaE
import Derived.Test.YtaoflhnkhgclhaaDoorStaA0
import Derived.Test.YtaoflhnkhgclhaaDoorStaB0
import Derived.Test.YtaoflhnkhgclhaaDoorStaC0
import Derived.Test.YtaoflhnkhgclhaaDoorStaD0
import Derived.Test.YtaoflhnkhgclhaaDoorStaE0
namespace Go.Proofs.YtaoflhnkhgclhaaDoor.Use
open Go.ChangeShapes Go.WideShapes Go.ChangeAt Go.RowKit Go.Sort Own
set_option linter.unusedVariables false
theorem u8_small (kd : Int) (h1 : 1 ≤ kd) (h2 : kd ≤ 3) : IntKind.u8.wrap kd = kd := by
  have h : kd = 1 ∨ kd = 2 ∨ kd = 3 := by omega
  rcases h with rfl | rfl | rfl <;> rfl
set_option maxRecDepth 100000 in
theorem law31 (kd : Int) (named inner : Bool) (a : Option Addr) (n cp : Nat) (B : Nat → Bool) (w : World) (ha : (a = none ∧ n = 0 ∧ cp = 0) ∨ ∃ x, a = some x ∧ n ≤ cp ∧ cp ≤ maxLen ∧ ∀ i, i < n → w.cell? (x.add i) = some (.bool (B i))) (hg0 : w.cell? ⟨0, 0, none⟩ = some (.int .u32 4294967295)) (hg1 : w.cell? ⟨0, 1, none⟩ = some (.int .u32 4294967295)) : Calls Tryd.prog 3 #[.int .i64 kd, .bool named, .bool inner, .slice a n cp] w fun e w' => e = .returned (.bool true) ∧ Below w.heap.size w w' := by
  rcases ha with ⟨rfl, rfl, rfl⟩ | ⟨x, rfl, hnc, hcm, hB⟩
  · skip
    by_cases hk1 : kd < 1
    · go_enter Tryd.func3, Tryd.ntmps3
      go_wp2_with (first | (go_at_call 5; go_in))
      all_goals (go_ret; exact ⟨rfl, Below.refl _ _⟩)
    by_cases hk2 : (3 : Int) < kd
    · go_enter Tryd.func3, Tryd.ntmps3
      go_wp2_with (first | (go_at_call 5; go_in))
      all_goals (go_ret; exact ⟨rfl, Below.refl _ _⟩)
    cases named
    · by_cases hk3 : kd = 3
      · subst hk3
        cases inner
        · exact Calls.mono (law31E0 w w _ (Own.start w) hg0 hg1) (fun e w' q => ⟨q.1, q.2.below⟩)
        · go_enter Tryd.func3, Tryd.ntmps3
          go_wp2_with (first | (go_at_call 5; go_in))
          all_goals (go_ret; exact ⟨rfl, Below.refl _ _⟩)
      · have hk4 : (kd != 3) = true := by simpa using hk3
        go_enter Tryd.func3, Tryd.ntmps3
        go_wp2_with (first | (go_at_call 5; go_in))
        all_goals (go_ret; exact ⟨rfl, Below.refl _ _⟩)
    · by_cases hk3 : kd = 3
      · subst hk3
        cases inner
        · exact Calls.mono (law31C0 w w _ (Own.start w) hg0 hg1) (fun e w' q => ⟨q.1, q.2.below⟩)
        · exact Calls.mono (law31D0 w w _ (Own.start w) hg0 hg1) (fun e w' q => ⟨q.1, q.2.below⟩)
      · have e1 := u8_small kd (by omega) (by omega)
        have e2 : (kd == 3) = false := by simpa using hk3
        have e3 : (kd == 0) = false := by rw [beq_eq_false_iff_ne]; omega
        cases inner
        · exact Calls.mono (law31A0 kd w w _ (Own.start w) e1 e2 e3 (by omega) (by omega) hg0 hg1) (fun e w' q => ⟨q.1, q.2.below⟩)
        · exact Calls.mono (law31B0 kd w w _ (Own.start w) e1 e2 e3 (by omega) (by omega) hg0 hg1) (fun e w' q => ⟨q.1, q.2.below⟩)
  · by_cases hn : n ≤ 4096
    · have hn9 : (n : Int) ≤ 4096 := by omega
      have hn8 : (n : Int) ≤ 1048576 := by omega
      by_cases hk1 : kd < 1
      · go_enter Tryd.func3, Tryd.ntmps3
        go_wp2_with (first | (go_at_call 5; go_in))
        all_goals (go_ret; exact ⟨rfl, Below.refl _ _⟩)
      by_cases hk2 : (3 : Int) < kd
      · go_enter Tryd.func3, Tryd.ntmps3
        go_wp2_with (first | (go_at_call 5; go_in))
        all_goals (go_ret; exact ⟨rfl, Below.refl _ _⟩)
      cases named
      · by_cases hk3 : kd = 3
        · subst hk3
          cases inner
          · exact Calls.mono (law31E x n cp B w w _ (Own.start w) hn hB hg0 hg1) (fun e w' q => ⟨q.1, q.2.below⟩)
          · go_enter Tryd.func3, Tryd.ntmps3
            go_wp2_with (first | (go_at_call 5; go_in))
            all_goals (go_ret; exact ⟨rfl, Below.refl _ _⟩)
        · have hk4 : (kd != 3) = true := by simpa using hk3
          go_enter Tryd.func3, Tryd.ntmps3
          go_wp2_with (first | (go_at_call 5; go_in))
          all_goals (go_ret; exact ⟨rfl, Below.refl _ _⟩)
      · by_cases hk3 : kd = 3
        · subst hk3
          cases inner
          · exact Calls.mono (law31C x n cp B w w _ (Own.start w) hn hB hg0 hg1) (fun e w' q => ⟨q.1, q.2.below⟩)
          · exact Calls.mono (law31D x n cp B w w _ (Own.start w) hn hB hg0 hg1) (fun e w' q => ⟨q.1, q.2.below⟩)
        · have e1 := u8_small kd (by omega) (by omega)
          have e2 : (kd == 3) = false := by simpa using hk3
          have e3 : (kd == 0) = false := by rw [beq_eq_false_iff_ne]; omega
          cases inner
          · exact Calls.mono (law31A kd x n cp B w w _ (Own.start w) e1 e2 e3 (by omega) (by omega) hn hB hg0 hg1) (fun e w' q => ⟨q.1, q.2.below⟩)
          · exact Calls.mono (law31B kd x n cp B w w _ (Own.start w) e1 e2 e3 (by omega) (by omega) hn hB hg0 hg1) (fun e w' q => ⟨q.1, q.2.below⟩)
    · have hn7 : (4096 : Int) < n := by omega
      by_cases hn6 : n ≤ 1048576
      · have hn9 : (n : Int) ≤ 1048576 := by omega
        go_enter Tryd.func3, Tryd.ntmps3
        go_wp2_with (first | (go_at_call 5; go_in))
        all_goals (go_ret; exact ⟨rfl, Below.refl _ _⟩)
      · have hn9 : (1048576 : Int) < n := by omega
        go_enter Tryd.func3, Tryd.ntmps3
        go_wp2_with (first | (go_at_call 5; go_in))
        all_goals (go_ret; exact ⟨rfl, Below.refl _ _⟩)

end Go.Proofs.YtaoflhnkhgclhaaDoor.Use
