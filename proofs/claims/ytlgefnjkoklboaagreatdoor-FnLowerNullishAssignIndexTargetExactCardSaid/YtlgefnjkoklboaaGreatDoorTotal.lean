/- The sum of a parser's use counts, walked. No condition. -/
import Derived.Test.YtlgefnjkoklboaaGreatDoorNew
namespace Go.Proofs.YtlgefnjkoklboaaGreatDoor.l131
open Go.ChangeShapes Go.WideShapes Go.ChangeAt Go.RowKit Go.Sort
set_option linter.unusedVariables false

/-- The sum of the first n counts. -/
def sumTo (uc : Nat → Nat) : Nat → Nat
  | 0 => 0
  | n + 1 => sumTo uc n + uc n
theorem sumTo_le (uc : Nat → Nat) (n : Nat) (h : ∀ i, i < n → uc i ≤ 4294967295) : sumTo uc n ≤ n * 4294967295 := by
  induction n with
  | zero => simp [sumTo]
  | succ n ih =>
    have := ih (fun i hi => h i (by omega))
    have := h n (by omega)
    simp only [sumTo]
    omega
set_option maxRecDepth 100000 in
theorem useCount (pb sb n i : Nat) (c : Int) (w : World) (hn : n ≤ 65537) (hi : i < n) (hp : w.cell? ⟨pb, 106, none⟩ = some (.slice (some ⟨sb, 0, none⟩) n n))
    (hs : w.cell? ⟨sb, i * 10 + 4, none⟩ = some (.int .u32 c)) :
    Calls Tryz.prog 16 #[.pointer (some ⟨pb, 0, none⟩), .int .i64 (i : Int)] w fun e w' => e = .returned (.int .u32 c) ∧ w = w' := by
  go_enter Tryz.func16, Tryz.ntmps16
  go_wp2
  go_returns
  exact ⟨rfl, rfl⟩

set_option maxRecDepth 100000 in
theorem total (pb sb n : Nat) (uc : Nat → Nat) (w : World) (hn : n ≤ 65537) (hp : w.cell? ⟨pb, 106, none⟩ = some (.slice (some ⟨sb, 0, none⟩) n n))
    (hs : Hid (∀ i, i < n → w.cell? ⟨sb, i * 10 + 4, none⟩ = some (.int .u32 (uc i)))) (hu : Hid (∀ i, i < n → uc i ≤ 4294967295)) :
    Calls Tryz.prog 12 #[.pointer (some ⟨pb, 0, none⟩), .int .i64 (n : Int)] w fun e w' => e = .returned (.int .u64 (sumTo uc n)) ∧ w = w' := by
  go_enter Tryz.func12, Tryz.ntmps12
  go_wp2
  go_loop [5, 6] (fun t i => ∃ k : Nat, i = .int .i64 k ∧ k ≤ n ∧ t = .int .u64 (sumTo uc k)) (fun _ i => n - (intOf i).toNat)
  case atStart => exact ⟨0, rfl, by omega, rfl⟩
  case round =>
    obtain ⟨k, rfl, hk, rfl⟩ := hrel
    by_cases hlt : k < n
    · have h1 := hs.out k hlt
      have h2 := hu.out k hlt
      have h3 := sumTo_le uc k (fun i hi => hu.out i (by omega))
      have h4 : sumTo uc k ≤ 281474976710656 := by omega
      go_wp2_with fail
      refine Calls.mono (useCount pb sb n k _ _ hn hlt hp h1) ?_
      rintro e w1 ⟨rfl, rfl⟩
      go_wp2
      refine ⟨⟨k + 1, by go_num, by omega, ?_⟩, by simp [intOf]; omega⟩
      simp only [sumTo]
      go_num
    · obtain rfl : k = n := by omega
      go_wp2
      go_ret
      exact ⟨rfl, rfl⟩
end Go.Proofs.YtlgefnjkoklboaaGreatDoor.l131
