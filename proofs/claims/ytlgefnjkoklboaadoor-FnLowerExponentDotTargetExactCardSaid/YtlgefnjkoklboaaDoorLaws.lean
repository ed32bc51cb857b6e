/- What the laws of the seat share: the sum of the counts, what is read of a fresh parser. No condition. -/
import Derived.Test.YtlgefnjkoklboaaDoorHelp
namespace Go.Proofs.YtlgefnjkoklboaaDoor.Use
open Go.ChangeShapes Go.WideShapes Go.ChangeAt Go.RowKit Go.Sort
set_option linter.unusedVariables false
theorem total1 (pb sb n : Nat) (uc : Nat → Nat) (t : Nat) (w : World) (hn : n ≤ 65537) (hp : w.cell? ⟨pb, 106, none⟩ = some (.slice (some ⟨sb, 0, none⟩) n n))
    (hs : Hid (∀ i, i < n → w.cell? ⟨sb, i * 10 + 4, none⟩ = some (.int .u32 (uc i)))) (hu : Hid (∀ i, i < n → uc i ≤ 4294967295)) (ht : l131.sumTo uc n = t) :
    Calls Tryd.prog 18 #[.pointer (some ⟨pb, 0, none⟩), .int .i64 (n : Int)] w fun e w' => e = .returned (.int .u64 (t : Int)) ∧ w = w' := by
  subst ht
  exact l131.total pb sb n uc w hn hp hs hu
theorem parAt {w : World} {pb : Nat} {x : Int} {mb sb n : Nat} (h : Base.RowAt w pb 207 (l131.parserCells Tryd.prog x (.slice (some ⟨sb, 0, none⟩) n n) (.map (some mb)))) : ParAt w pb sb n n ∧ w.cell? ⟨pb, 23, none⟩ = some (.int .u64 x) ∧ w.cell? ⟨pb, 117, none⟩ = some (.map (some mb)) := by
  exact ⟨⟨h.cell (by kernel_rfl), h.cell (by kernel_rfl), h.cell (by kernel_rfl), h.cell (by kernel_rfl)⟩, h.cell (by kernel_rfl), h.cell (by kernel_rfl)⟩
theorem u32r {a : Int} (h : (Lit.int .u32 a).wf = true) : 0 ≤ a ∧ a ≤ 4294967295 := by
  unfold Lit.wf at h
  rw [Bool.and_eq_true, decide_eq_true_eq, decide_eq_true_eq] at h
  exact h
theorem Cnt.set' {C : Array Value} {n i c : Nat} {uc : Nat → Nat} (h : Cnt C n uc) (hi : i < n) (hc : uc i = c) : Cnt (C.setIfInBounds (i * 10 + 4) (.int .u32 ((c + 1 : Nat) : Int))) n (bump uc i) := by
  subst hc
  exact h.set hi
end Go.Proofs.YtlgefnjkoklboaaDoor.Use
