/- The law on the first match of a chain, walked whole. No condition. -/
import Derived.Test.YtdbnnpoffpipjaaL32R
import Derived.Test.YtdbnnpoffpipjaaL32L
import Derived.Test.YtdbnnpoffpipjaaZ32
import Derived.Test.YtdbnnpoffpipjaaLp
namespace Go.Proofs.Ytdbnnpoffpipjaa.Use
open Go.ChangeShapes Go.WideShapes Go.ChangeAt Go.RowKit Go.Sort Own
set_option linter.unusedVariables false
theorem xor_ne (x : Int) : ¬ bits BinOp.xor .u32 x 1 = x := by
  intro h
  have hb : bits BinOp.xor .u32 x 1 = IntKind.u32.wrap ((((BitVec.ofInt 32 x) ^^^ (BitVec.ofInt 32 1)).toNat : Nat) : Int) := rfl
  have hw : IntKind.u32.wrap ((((BitVec.ofInt 32 x) ^^^ (BitVec.ofInt 32 1)).toNat : Nat) : Int) = ((((BitVec.ofInt 32 x) ^^^ (BitVec.ofInt 32 1)).toNat : Nat) : Int) := by
    rw [IntKind.wrap_u32]
    have := ((BitVec.ofInt 32 x) ^^^ (BitVec.ofInt 32 1)).isLt
    omega
  rw [hb, hw] at h
  have h2 : BitVec.ofInt 32 x ^^^ BitVec.ofInt 32 1 = BitVec.ofInt 32 x := by
    have h3 := congrArg (BitVec.ofInt 32) h
    rw [BitVec.ofInt_natCast, BitVec.ofNat_toNat, BitVec.setWidth_eq] at h3
    exact h3
  have h4 := congrArg (fun v => BitVec.ofInt 32 x ^^^ v) h2
  simp only [← BitVec.xor_assoc, BitVec.xor_self, BitVec.zero_xor] at h4
  exact absurd h4 (by decide)
theorem below_of {w0 w' : World} {X : Nat → Obj → Prop} {e : Ending} (q : l32Post w0 X e w') : e = .returned (.bool true) ∧ Below w0.heap.size w0 w' := q
set_option maxRecDepth 100000 in
set_option maxHeartbeats 1000000 in
theorem law32w (a : Option Addr) (n cp : Nat) (z : List Int) (right : Bool) (src inn : Int) (w : World) (hr : (a = none ∧ n = 0 ∧ cp = 0 ∧ z = []) ∨ ∃ x, a = some x ∧ n ≤ cp ∧ cp ≤ maxLen ∧ z.length = cp ∧ (∀ i, i < z.length → w.cell? (x.add i) = some (.int .u8 (z.getD i 0))) ∧ ∀ q ∈ z, (Lit.int .u8 q).wf = true) : Calls Try.prog 3 #[.slice a n cp, .bool right, .int .u32 src, .int .u32 inn] w fun e w' => e = .returned (.bool true) ∧ Below w.heap.size w w' := by
  rcases hr with ⟨rfl, rfl, rfl, rfl⟩ | ⟨x, rfl, hnc, -, hz, hc, hwf⟩
  · cases right
    · exact Calls.mono (law32zNL src inn w w _ (Own.start w)) fun e w' q => below_of q
    · exact Calls.mono (law32zNR src inn w w _ (Own.start w)) fun e w' q => below_of q
  by_cases hn6 : n ≤ 1048576
  · have hn8 : (n : Int) ≤ 1048576 := by omega
    by_cases hn : n ≤ 4096
    · by_cases h0 : n = 0
      · subst h0
        cases right
        · exact Calls.mono (law32zSL x cp src inn w w _ (Own.start w)) fun e w' q => below_of q
        · exact Calls.mono (law32zSR x cp src inn w w _ (Own.start w)) fun e w' q => below_of q
      have hb : ∀ i, i < n → 0 ≤ z.getD i 0 ∧ z.getD i 0 < 256 := by
        intro i hi
        have hiz : i < z.length := by omega
        have hm : z.getD i 0 ∈ z := by
          rw [List.getD_eq_getElem?_getD, List.getElem?_eq_getElem hiz]
          exact List.getElem_mem hiz
        have h9 := hwf _ hm
        simp only [Lit.wf, Bool.and_eq_true, decide_eq_true_eq] at h9
        have h10 : IntKind.u8.min = 0 := rfl
        have h11 : IntKind.u8.max = 255 := rfl
        omega
      have hB : ∀ i, i < n → w.cell? (x.add i) = some (.int .u8 (((z.getD i 0).toNat : Nat) : Int)) := by
        intro i hi
        rw [hc i (by omega), Int.toNat_of_nonneg (hb i hi).1]
      have hu : ∀ i : Nat, i < n → (z.getD i 0).toNat < 256 := by
        intro i hi
        have := hb i hi
        omega
      cases right
      · exact Calls.mono (law32L x n cp (fun i => (z.getD i 0).toNat) src inn w w _ (Own.start w) (by omega) hn hB hu (xor_ne inn)) fun e w' q => below_of q
      · exact Calls.mono (law32R x n cp (fun i => (z.getD i 0).toNat) src inn w w _ (Own.start w) (by omega) hn hB hu (xor_ne inn)) fun e w' q => below_of q
    · have hn7 : (4096 : Int) < (n : Int) := by omega
      go_enter Try.func3, Try.ntmps3
      go_wp2_with (first | (go_at_call 5; go_in))
      all_goals (go_ret; exact ⟨rfl, Below.refl _ _⟩)
  · have hn9 : (1048576 : Int) < (n : Int) := by omega
    go_enter Try.func3, Try.ntmps3
    go_wp2_with (first | (go_at_call 5; go_in))
    all_goals (go_ret; exact ⟨rfl, Below.refl _ _⟩)

end Go.Proofs.Ytdbnnpoffpipjaa.Use
