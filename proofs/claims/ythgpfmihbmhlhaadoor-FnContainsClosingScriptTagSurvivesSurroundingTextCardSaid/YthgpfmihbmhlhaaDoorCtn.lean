/- containsClosingScriptTag and the two laws, walked. Condition: the tables of unicode.SimpleFold hold what the program's text lays. -/
import Derived.Test.YthgpfmihbmhlhaaDoorFo
namespace Go.Proofs.YthgpfmihbmhlhaaDoor.Tag
open Go.RowKit
set_option linter.unusedVariables false
theorem scriptAt_take (l : List UInt8) : scriptAt (l.take 6) = scriptAt l := by
  unfold scriptAt
  rw [List.take_take, Nat.min_self]
def CtRel (s : ByteArray) (w : World) (g : Nat) (v : Value) (wz : World) : Prop := ∃ U : ByteArray, v = .string U ∧ hasTag U.data.toList = hasTag s.data.toList ∧ U.size < g ∧ U.size ≤ s.size ∧ Below w.heap.size w wz
set_option maxHeartbeats 1000000 in
theorem contains (s : ByteArray) (hs : s.size ≤ 1048576) (w : World) (ht : Tabs w) :
    Calls Tryd.prog 9 #[.string s] w fun e w' => e = .returned (.bool (hasTag s.data.toList)) ∧ Below w.heap.size w w' := by
  have HT := Lib.hid ht
  clear ht
  go_enter Tryd.func9, Tryd.ntmps9
  go_wp2
  go_loopg [0] (s.size + 1) (fun g v wz => CtRel s w g v wz)
  case atStart => exact ⟨s, rfl, rfl, by omega, Nat.le_refl _, Below.refl _ _⟩
  case round =>
    obtain ⟨U, rfl, hU, hg, hUs, hb⟩ := hrel
    have HU := Lib.hid hU
    have HB := Lib.hid hb
    have HT2 := Lib.hid (HT.out.below hb)
    clear hU hb
    by_cases hex : ∃ j, openAt (U.data.toList.drop j) = true
    · obtain ⟨k, hk, hmin⟩ := exists_least hex
      have hlt : ∀ j, j < k → openAt (U.data.toList.drop j) = false := fun j hj => by
        rw [← Bool.not_eq_true]
        intro h
        have := hmin j h
        omega
      have hkl : k + 2 ≤ U.size := by
        have := openAt_len hk
        rw [List.length_drop] at this
        have e : U.data.toList.length = U.size := by simp
        omega
      have cI := index_at U k hk hlt (by omega) wr
      have HK := Lib.hid (And.intro hk hlt)
      clear hk hmin hlt hex
      have b1 : ((k : Int) + 2) ≤ U.size := by omega
      obtain ⟨V, hV⟩ : ∃ V, U.extract (k + 2) U.size = V := ⟨_, rfl⟩
      have hVd : V.data.toList = U.data.toList.drop (k + 2) := by
        rw [← hV, data_extract', List.take_of_length_le]
        rw [List.length_drop]
        have e : U.data.toList.length = U.size := by simp
        omega
      have hVs : V.size + (k + 2) = U.size := by
        have e : U.data.toList.length = U.size := by simp
        have e2 : V.data.toList.length = V.size := by simp
        rw [hVd, List.length_drop] at e2
        omega
      have HV := Lib.hid hVd
      clear hVd
      by_cases h6 : 6 ≤ V.size
      · have b2 : (6 : Int) ≤ V.size := by omega
        obtain ⟨X, hX⟩ : ∃ X, V.extract 0 6 = X := ⟨_, rfl⟩
        have hXs : X.size = 6 := by rw [← hX]; simp [ByteArray.size_extract]; omega
        have cF := fold_script X hXs wr HT2.out
        rw [← hX, data_extract', List.drop_zero, scriptAt_take, hX] at cF
        by_cases hsc : scriptAt V.data.toList = true
        · rw [hsc] at cF
          have HS := Lib.hid hsc
          clear hsc
          go_wp2_with (first | (go_at_call 11; refine cI.mono ?_; rintro e w' ⟨rfl, rfl⟩) | (go_at_call 12; refine cF.mono ?_; rintro e w' ⟨rfl, hb2⟩))
          go_ret
          refine ⟨?_, HB.out.trans ?_⟩
          · rw [← HU.out, hasTag_at _ k HK.out.1 (by rw [← HV.out]; exact HS.out)]
            rfl
          · exact hb2.mono HB.out.size
        · have hsf : scriptAt V.data.toList = false := by simpa using hsc
          rw [hsf] at cF
          have HS := Lib.hid hsf
          clear hsc hsf
          go_wp2_with (first | (go_at_call 11; refine cI.mono ?_; rintro e w' ⟨rfl, rfl⟩) | (go_at_call 12; refine cF.mono ?_; rintro e w' ⟨rfl, hb2⟩))
          go_roundg (V.size + 1)
          case measure => omega
          case rel =>
            refine ⟨V, rfl, ?_, by omega, by omega, HB.out.trans (hb2.mono HB.out.size)⟩
            rw [← HU.out, hasTag_step _ k HK.out.1 HK.out.2 (by rw [← HV.out]; exact HS.out), HV.out]
      · have b2 : ¬ (6 : Int) ≤ V.size := by omega
        go_wp2_with (first | (go_at_call 11; refine cI.mono ?_; rintro e w' ⟨rfl, rfl⟩))
        go_roundg (V.size + 1)
        case measure => omega
        case rel =>
          refine ⟨V, rfl, ?_, by omega, by omega, HB.out⟩
          rw [← HU.out, hasTag_step _ k HK.out.1 HK.out.2 ?_, HV.out]
          rw [← Bool.not_eq_true, ← HV.out]
          intro h
          have := scriptAt_len h
          have e2 : V.data.toList.length = V.size := by simp
          omega
    · have hno : ∀ j, openAt (U.data.toList.drop j) = false := fun j => by
        rw [← Bool.not_eq_true]
        exact fun h => hex ⟨j, h⟩
      have cI := index_none U hno (by omega) wr
      have HN := Lib.hid hno
      clear hno hex
      go_wp2_with (first | (go_at_call 11; refine cI.mono ?_; rintro e w' ⟨rfl, rfl⟩))
      go_ret
      exact ⟨by rw [← HU.out, hasTag_drop_none _ HN.out]; rfl, HB.out⟩
theorem below_drewN {B : Nat} {a w : World} (h : Below B a w) (n : Nat) : Below B a (w.drewN n) := by
  induction n with
  | zero => exact h
  | succ n ih => exact ih.drew
theorem door (s : ByteArray) (hs : s.size ≤ 1048576) (w : World) (ht : Tabs w) :
    Calls Tryd.prog 6 #[.string s] w fun e w' => e = .returned (.bool (hasTag s.data.toList)) ∧ Below w.heap.size w w' := by
  have c1 := contains s hs w ht
  obtain ⟨b, hb⟩ : ∃ b, hasTag s.data.toList = b := ⟨_, rfl⟩
  rw [hb] at c1 ⊢
  go_enter Tryd.func6, Tryd.ntmps6
  go_wp2_with (go_at_call 9; refine c1.mono ?_; rintro e w' ⟨rfl, hb2⟩)
  go_ret
  exact ⟨rfl, hb2⟩
theorem law1 (s : ByteArray) (w : World) (ht : Tabs w) : Calls Tryd.prog 3 #[.string s] w fun e w' => e = .returned (.bool true) ∧ Below w.heap.size w w' := by
  by_cases hs : s.size ≤ 1048576
  · have hs' : (s.size : Int) ≤ 1048576 := by omega
    obtain ⟨b, hb⟩ : ∃ b, hasTag s.data.toList = b := ⟨_, rfl⟩
    have c1 := door s hs w ht
    have c2 := has s hs
    rw [hb] at c1
    have c2' : ∀ w, Calls Tryd.prog 7 #[.string s] w fun e w' => e = .returned (.bool b) ∧ ∃ n, w' = w.drewN n := fun w => by rw [← hb]; exact c2 w
    clear hb c2
    have bb : (b == b) = true := beq_self_eq_true b
    go_enter Tryd.func3, Tryd.ntmps3
    go_wp2_with (first | (go_at_call 5; go_in) | (go_at_call 6; refine c1.mono ?_; rintro e w' ⟨rfl, hb2⟩) | (go_at_call 7; refine (c2' _).mono ?_; rintro e w' ⟨rfl, n, rfl⟩))
    go_ret
    exact ⟨rfl, below_drewN hb2 n⟩
  · have hs' : ¬ (s.size : Int) ≤ 1048576 := by omega
    go_enter Tryd.func3, Tryd.ntmps3
    go_wp2_with (go_at_call 5; go_in)
    go_ret
    exact ⟨rfl, Below.refl _ _⟩
theorem law2 (a b c : ByteArray) (w : World) (ht : Tabs w) : Calls Tryd.prog 4 #[.string a, .string b, .string c] w fun e w' => e = .returned (.bool true) ∧ Below w.heap.size w w' := by
  by_cases hs : a.size + b.size + c.size ≤ 1048576
  · have ha' : (a.size : Int) ≤ 1048576 := by omega
    have hb' : (b.size : Int) ≤ 1048576 := by omega
    have hc' : (c.size : Int) ≤ 1048576 := by omega
    have hab : (a.size : Int) + b.size ≤ 1048576 := by omega
    have habc : (a.size : Int) + b.size + c.size ≤ 1048576 := by omega
    have c1 := door b (by omega) w ht
    cases hh : hasTag b.data.toList with
    | false =>
      rw [hh] at c1
      clear hh
      go_enter Tryd.func4, Tryd.ntmps4
      go_wp2_with (first | (go_at_call 8; go_in) | (go_at_call 6; refine c1.mono ?_; rintro e w' ⟨rfl, hb2⟩))
      go_ret
      exact ⟨rfl, hb2⟩
    | true =>
      rw [hh] at c1
      have HA := Lib.hid (hasTag_around hh a.data.toList c.data.toList)
      clear hh
      go_enter Tryd.func4, Tryd.ntmps4
      go_wp2_with (first | (go_at_call 8; go_in) | (go_at_call 6; refine c1.mono ?_; rintro e w' ⟨rfl, hb2⟩))
      have c2 := door (a ++ b ++ c) (by simp [ByteArray.size_append]; omega) w' (ht.below hb2)
      rw [show (a ++ b ++ c).data.toList = a.data.toList ++ b.data.toList ++ c.data.toList by simp [ByteArray.data_append], HA.out] at c2
      refine c2.mono ?_
      rintro e w2 ⟨rfl, hb3⟩
      go_wp2
      go_ret
      exact ⟨rfl, hb2.trans (hb3.mono hb2.size)⟩
  · have hs1 : ¬ (a.size : Int) + b.size + c.size ≤ 1048576 := by omega
    have hs2 : (1048576 : Int) < (a.size : Int) + b.size + c.size := by omega
    by_cases ha : (a.size : Int) ≤ 1048576
    · by_cases hb : (b.size : Int) ≤ 1048576
      · by_cases hc : (c.size : Int) ≤ 1048576
        · by_cases hab : (a.size : Int) + b.size ≤ 1048576
          · go_enter Tryd.func4, Tryd.ntmps4
            go_wp2_with (go_at_call 8; go_in)
            go_ret
            exact ⟨rfl, Below.refl _ _⟩
          · go_enter Tryd.func4, Tryd.ntmps4
            go_wp2_with (go_at_call 8; go_in)
            go_ret
            exact ⟨rfl, Below.refl _ _⟩
        · go_enter Tryd.func4, Tryd.ntmps4
          go_wp2_with (go_at_call 8; go_in)
          all_goals
            go_ret
            exact ⟨rfl, Below.refl _ _⟩
      · go_enter Tryd.func4, Tryd.ntmps4
        go_wp2_with (go_at_call 8; go_in)
        all_goals
          go_ret
          exact ⟨rfl, Below.refl _ _⟩
    · go_enter Tryd.func4, Tryd.ntmps4
      go_wp2_with (go_at_call 8; go_in)
      all_goals
        go_ret
        exact ⟨rfl, Below.refl _ _⟩
end Go.Proofs.YthgpfmihbmhlhaaDoor.Tag
