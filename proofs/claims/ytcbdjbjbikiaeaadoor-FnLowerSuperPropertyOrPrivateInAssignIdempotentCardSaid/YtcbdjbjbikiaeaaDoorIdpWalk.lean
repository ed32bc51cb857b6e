/- Row 22: the law, walked whole. No condition. -/
import Derived.Test.YtcbdjbjbikiaeaaDoorHd22
import Derived.Test.YtcbdjbjbikiaeaaDoorFp22f
import Derived.Test.YtcbdjbjbikiaeaaDoorFp22t
import Derived.Test.YtcbdjbjbikiaeaaDoorRs22
import Derived.Test.YtcbdjbjbikiaeaaDoorHb22
namespace Go.Proofs.YtcbdjbjbikiaeaaDoor.Use
open Go.ChangeShapes Go.WideShapes Go.ChangeAt Go.RowKit Go.Sort Own
set_option linter.unusedVariables false
set_option maxRecDepth 100000 in
set_option maxHeartbeats 2000000 in
theorem law22w (l r s : Bool) (a : Option Addr) (n cp : Nat) (z : List Int) (nm : ByteArray) (w : World) (hr : (a = none ∧ n = 0 ∧ cp = 0 ∧ z = []) ∨ ∃ x, a = some x ∧ n ≤ cp ∧ cp ≤ maxLen ∧ z.length = cp ∧ (∀ i, i < z.length → w.cell? (x.add i) = some (.int .u8 (z.getD i 0))) ∧ ∀ q ∈ z, (Lit.int .u8 q).wf = true) :
    Calls Tryd.prog 6 #[.bool l, .bool r, .bool s, .slice a n cp, .string nm] w fun e w' => e = .returned (.bool true) ∧ Below w.heap.size w w' := by
  by_cases hA : n ≤ 4096 ∧ nm.size ≤ 4096
  · rcases hr with ⟨rfl, rfl, rfl, rfl⟩ | ⟨x, rfl, hnc, -, hz, hc, hwf⟩
    · obtain ⟨U, hU⟩ : ∃ U : Nat → Nat, ∀ i : Nat, i < 0 → U i < 256 := ⟨fun _ => 0, fun i hi => absurd hi (Nat.not_lt_zero i)⟩
      obtain ⟨n, hn0⟩ : ∃ n : Nat, n = 0 := ⟨0, rfl⟩
      obtain ⟨cp, hc0⟩ : ∃ n : Nat, n = 0 := ⟨0, rfl⟩
      refine hd22 none ⟨0, 0, none⟩ 0 U l r s 0 nm w w (fun _ _ => False) _ (fun w3 Y h3 => ⟨rfl, h3.below⟩) ?_ (Own.start w) hA.1 hA.2 hU (fun h => absurd h (Nat.lt_irrefl 0)) (fun i hi => absurd hi (Nat.not_lt_zero i))
      cases l
      · exact fp22f false r s 0 nm w _ _ (rs22 false r s 0 nm w _ _ (fun w3 Y h3 => ⟨rfl, h3.below⟩)) rfl
      · exact fp22t true r s 0 nm w _ _ (rs22 true r s 0 nm w _ _ (fun w3 Y h3 => ⟨rfl, h3.below⟩)) rfl
    · have hb : ∀ i, i < n → 0 ≤ z.getD i 0 ∧ z.getD i 0 < 256 := by
        intro i hi
        have hiz : i < z.length := by omega
        have hm : z.getD i 0 ∈ z := by
          rw [List.getD_eq_getElem?_getD, List.getElem?_eq_getElem hiz]
          exact List.getElem_mem hiz
        have h9 := hwf _ hm
        simp only [Lit.wf, Bool.and_eq_true, decide_eq_true_eq] at h9
        have h10 : IntKind.u8.min = 0 := rfl
        have h11 : IntKind.u8.max = 255 := rfl
        omega
      obtain ⟨U, hUe⟩ : ∃ U : Nat → Nat, U = fun i => (z.getD i 0).toNat := ⟨_, rfl⟩
      have hU : ∀ i : Nat, i < n → U i < 256 := fun i hi => by
        have := hb i hi
        rw [hUe]
        show (z.getD i 0).toNat < 256
        omega
      have hk : ∀ i : Nat, i < n → w.cell? (x.add i) = some (.int .u8 (U i : Int)) := fun i hi => by
        have h1 := hb i hi
        have h2 := hc i (by omega)
        have h3 : ((U i : Nat) : Int) = z.getD i 0 := by
          rw [hUe]
          show (((z.getD i 0).toNat : Nat) : Int) = _
          omega
        rw [h3]
        exact h2
      refine hd22 (some x) x cp U l r s n nm w w (fun _ _ => False) _ (fun w3 Y h3 => ⟨rfl, h3.below⟩) ?_ (Own.start w) hA.1 hA.2 hU (fun _ => rfl) hk
      cases l
      · exact fp22f false r s n nm w _ _ (rs22 false r s n nm w _ _ (fun w3 Y h3 => ⟨rfl, h3.below⟩)) rfl
      · exact fp22t true r s n nm w _ _ (rs22 true r s n nm w _ _ (fun w3 Y h3 => ⟨rfl, h3.below⟩)) rfl
  · have hn8 : (0 : Int) ≤ (n : Int) := by omega
    have hm8 : (0 : Int) ≤ (nm.size : Int) := by omega
    by_cases h1 : n ≤ 1048576
    · have h1' : (n : Int) ≤ 1048576 := by omega
      by_cases h2 : nm.size ≤ 1048576
      · have h2' : (nm.size : Int) ≤ 1048576 := by omega
        by_cases h3 : n + nm.size ≤ 1048576
        · have h3' : (n : Int) + (nm.size : Int) ≤ 1048576 := by omega
          by_cases h4 : n ≤ 4096
          · have h4' : (n : Int) ≤ 4096 := by omega
            have h5' : (4096 : Int) < (nm.size : Int) := by omega
            go_enter Tryd.func6, Tryd.ntmps6
            go_wp2_with (first | (go_at_call 25; go_in))
            all_goals (go_ret; exact ⟨rfl, Below.refl _ _⟩)
          · have h4' : (4096 : Int) < (n : Int) := by omega
            go_enter Tryd.func6, Tryd.ntmps6
            go_wp2_with (first | (go_at_call 25; go_in))
            all_goals (go_ret; exact ⟨rfl, Below.refl _ _⟩)
        · have h3' : (1048576 : Int) < (n : Int) + (nm.size : Int) := by omega
          go_enter Tryd.func6, Tryd.ntmps6
          go_wp2_with (first | (go_at_call 25; go_in))
          all_goals (go_ret; exact ⟨rfl, Below.refl _ _⟩)
      · have h2' : (1048576 : Int) < (nm.size : Int) := by omega
        go_enter Tryd.func6, Tryd.ntmps6
        go_wp2_with (first | (go_at_call 25; go_in))
        all_goals (go_ret; exact ⟨rfl, Below.refl _ _⟩)
    · have h1' : (1048576 : Int) < (n : Int) := by omega
      go_enter Tryd.func6, Tryd.ntmps6
      go_wp2_with (first | (go_at_call 25; go_in))
      all_goals (go_ret; exact ⟨rfl, Below.refl _ _⟩)

end Go.Proofs.YtcbdjbjbikiaeaaDoor.Use
