/- The law on all matches of a chain, walked whole. No condition. -/
import Derived.Test.YtdbnnpoffpipjaaH33IS
import Derived.Test.YtdbnnpoffpipjaaH33IN
import Derived.Test.YtdbnnpoffpipjaaH33NS
import Derived.Test.YtdbnnpoffpipjaaH33NN
import Derived.Test.YtdbnnpoffpipjaaTl33
import Derived.Test.YtdbnnpoffpipjaaZ33
namespace Go.Proofs.Ytdbnnpoffpipjaa.Use
open Go.ChangeShapes Go.WideShapes Go.ChangeAt Go.RowKit Go.Sort Own
set_option linter.unusedVariables false
theorem xor_ne (x : Int) : ¬ bits BinOp.xor .u32 x 1 = x := by
  intro h
  have hb : bits BinOp.xor .u32 x 1 = IntKind.u32.wrap ((((BitVec.ofInt 32 x) ^^^ (BitVec.ofInt 32 1)).toNat : Nat) : Int) := rfl
  have hw : IntKind.u32.wrap ((((BitVec.ofInt 32 x) ^^^ (BitVec.ofInt 32 1)).toNat : Nat) : Int) = ((((BitVec.ofInt 32 x) ^^^ (BitVec.ofInt 32 1)).toNat : Nat) : Int) := by
    rw [IntKind.wrap_u32]
    have := ((BitVec.ofInt 32 x) ^^^ (BitVec.ofInt 32 1)).isLt
    omega
  rw [hb, hw] at h
  have h2 : BitVec.ofInt 32 x ^^^ BitVec.ofInt 32 1 = BitVec.ofInt 32 x := by
    have h3 := congrArg (BitVec.ofInt 32) h
    rw [BitVec.ofInt_natCast, BitVec.ofNat_toNat, BitVec.setWidth_eq] at h3
    exact h3
  have h4 := congrArg (fun v => BitVec.ofInt 32 x ^^^ v) h2
  simp only [← BitVec.xor_assoc, BitVec.xor_self, BitVec.zero_xor] at h4
  exact absurd h4 (by decide)
theorem below_of {w0 w' : World} {X : Nat → Obj → Prop} {e : Ending} (q : l32Post w0 X e w') : e = .returned (.bool true) ∧ Below w0.heap.size w0 w' := q
set_option maxRecDepth 100000 in
set_option maxHeartbeats 1000000 in
theorem law33out (a : Option Addr) (n cp : Nat) (z : List Int) (a1 : Option Addr) (m cq : Nat) (y : List Int) (src inn : Int) (w : World) (hne : ¬ (n ≤ 4096 ∧ m ≤ 65536)) : Calls Try.prog 4 #[.slice a n cp, .slice a1 m cq, .int .u32 src, .int .u32 inn] w fun e w' => e = .returned (.bool true) ∧ Below w.heap.size w w' := by
  have hn0 : (0 : Int) ≤ (n : Int) := by omega
  have hm0 : (0 : Int) ≤ (m : Int) := by omega
  by_cases hn6 : n ≤ 1048576
  · have hn8 : (n : Int) ≤ 1048576 := by omega
    by_cases hm6 : m ≤ 1048576
    · have hm8 : (m : Int) ≤ 1048576 := by omega
      by_cases hs : n + m ≤ 1048576
      · have hs8 : (n : Int) + (m : Int) ≤ 1048576 := by omega
        by_cases hn : n ≤ 4096
        · have hn7 : (n : Int) ≤ 4096 := by omega
          have hm7 : (65536 : Int) < (m : Int) := by omega
          go_enter Try.func4, Try.ntmps4
          go_wp2_with (first | (go_at_call 14; go_in))
          all_goals (go_ret; exact ⟨rfl, Below.refl _ _⟩)
        · have hn7 : (4096 : Int) < (n : Int) := by omega
          go_enter Try.func4, Try.ntmps4
          go_wp2_with (first | (go_at_call 14; go_in))
          all_goals (go_ret; exact ⟨rfl, Below.refl _ _⟩)
      · have hs7 : (1048576 : Int) < (n : Int) + (m : Int) := by omega
        go_enter Try.func4, Try.ntmps4
        go_wp2_with (first | (go_at_call 14; go_in))
        all_goals (go_ret; exact ⟨rfl, Below.refl _ _⟩)
    · have hm9 : (1048576 : Int) < (m : Int) := by omega
      go_enter Try.func4, Try.ntmps4
      go_wp2_with (first | (go_at_call 14; go_in))
      all_goals (go_ret; exact ⟨rfl, Below.refl _ _⟩)
  · have hn9 : (1048576 : Int) < (n : Int) := by omega
    go_enter Try.func4, Try.ntmps4
    go_wp2_with (first | (go_at_call 14; go_in))
    all_goals (go_ret; exact ⟨rfl, Below.refl _ _⟩)
theorem law33w (a : Option Addr) (n cp : Nat) (z : List Int) (a1 : Option Addr) (m cq : Nat) (y : List Int) (src inn : Int) (w : World) (h0 : (a = none ∧ n = 0 ∧ cp = 0 ∧ z = []) ∨ ∃ x, a = some x ∧ n ≤ cp ∧ cp ≤ maxLen ∧ z.length = cp ∧ (∀ i, i < z.length → w.cell? (x.add i) = some (.int .u8 (z.getD i 0))) ∧ ∀ q ∈ z, (Lit.int .u8 q).wf = true) (h1 : (a1 = none ∧ m = 0 ∧ cq = 0 ∧ y = []) ∨ ∃ x, a1 = some x ∧ m ≤ cq ∧ cq ≤ maxLen ∧ y.length = cq ∧ (∀ i, i < y.length → w.cell? (x.add i) = some (.int .u16 (y.getD i 0))) ∧ ∀ q ∈ y, (Lit.int .u16 q).wf = true) : Calls Try.prog 4 #[.slice a n cp, .slice a1 m cq, .int .u32 src, .int .u32 inn] w fun e w' => e = .returned (.bool true) ∧ Below w.heap.size w w' := by
  by_cases hnm : n ≤ 4096 ∧ m ≤ 65536
  · obtain ⟨hn, hm⟩ := hnm
    rcases h0 with ⟨rfl, rfl, rfl, rfl⟩ | ⟨x, rfl, hnc, -, hz, hc, hwf⟩
    · rcases h1 with ⟨rfl, rfl, rfl, rfl⟩ | ⟨x1, rfl, hmc, -, hy, hc1, hwf1⟩
      · exact Calls.mono (law33NN src inn w w _ (Own.start w) (xor_ne inn)) fun e w' q => below_of q
      have hb1 : ∀ i, i < m → 0 ≤ y.getD i 0 ∧ y.getD i 0 < 65536 := by
        intro i hi
        have hiz : i < y.length := by omega
        have hm9 : y.getD i 0 ∈ y := by
          rw [List.getD_eq_getElem?_getD, List.getElem?_eq_getElem hiz]
          exact List.getElem_mem hiz
        have h9 := hwf1 _ hm9
        simp only [Lit.wf, Bool.and_eq_true, decide_eq_true_eq] at h9
        have h10 : IntKind.u16.min = 0 := rfl
        have h11 : IntKind.u16.max = 65535 := rfl
        omega
      have hB1 : ∀ i, i < m → w.cell? (x1.add i) = some (.int .u16 (((y.getD i 0).toNat : Nat) : Int)) := by
        intro i hi
        rw [hc1 i (by omega), Int.toNat_of_nonneg (hb1 i hi).1]
      have hu1 : ∀ i : Nat, i < m → (y.getD i 0).toNat < 65536 := by
        intro i hi
        have := hb1 i hi
        omega
      exact Calls.mono (law33NS x1 m cq (fun i => (y.getD i 0).toNat) src inn w w _ (Own.start w) hm hB1 hu1 (xor_ne inn)) fun e w' q => below_of q
    have hb : ∀ i, i < n → 0 ≤ z.getD i 0 ∧ z.getD i 0 < 256 := by
      intro i hi
      have hiz : i < z.length := by omega
      have hm9 : z.getD i 0 ∈ z := by
        rw [List.getD_eq_getElem?_getD, List.getElem?_eq_getElem hiz]
        exact List.getElem_mem hiz
      have h9 := hwf _ hm9
      simp only [Lit.wf, Bool.and_eq_true, decide_eq_true_eq] at h9
      have h10 : IntKind.u8.min = 0 := rfl
      have h11 : IntKind.u8.max = 255 := rfl
      omega
    have hB : ∀ i, i < n → w.cell? (x.add i) = some (.int .u8 (((z.getD i 0).toNat : Nat) : Int)) := by
      intro i hi
      rw [hc i (by omega), Int.toNat_of_nonneg (hb i hi).1]
    have hu : ∀ i : Nat, i < n → (z.getD i 0).toNat < 256 := by
      intro i hi
      have := hb i hi
      omega
    rcases h1 with ⟨rfl, rfl, rfl, rfl⟩ | ⟨x1, rfl, hmc, -, hy, hc1, hwf1⟩
    · exact Calls.mono (law33IN x n cp (fun i => (z.getD i 0).toNat) src inn w w _ (Own.start w) hn hB hu (xor_ne inn)) fun e w' q => below_of q
    have hb1 : ∀ i, i < m → 0 ≤ y.getD i 0 ∧ y.getD i 0 < 65536 := by
      intro i hi
      have hiz : i < y.length := by omega
      have hm9 : y.getD i 0 ∈ y := by
        rw [List.getD_eq_getElem?_getD, List.getElem?_eq_getElem hiz]
        exact List.getElem_mem hiz
      have h9 := hwf1 _ hm9
      simp only [Lit.wf, Bool.and_eq_true, decide_eq_true_eq] at h9
      have h10 : IntKind.u16.min = 0 := rfl
      have h11 : IntKind.u16.max = 65535 := rfl
      omega
    have hB1 : ∀ i, i < m → w.cell? (x1.add i) = some (.int .u16 (((y.getD i 0).toNat : Nat) : Int)) := by
      intro i hi
      rw [hc1 i (by omega), Int.toNat_of_nonneg (hb1 i hi).1]
    have hu1 : ∀ i : Nat, i < m → (y.getD i 0).toNat < 65536 := by
      intro i hi
      have := hb1 i hi
      omega
    exact Calls.mono (law33IS x n cp (fun i => (z.getD i 0).toNat) x1 m cq (fun i => (y.getD i 0).toNat) src inn w w _ (Own.start w) hn hB hu hm hB1 hu1 (xor_ne inn)) fun e w' q => below_of q
  · exact law33out a n cp z a1 m cq y src inn w hnm

end Go.Proofs.Ytdbnnpoffpipjaa.Use
