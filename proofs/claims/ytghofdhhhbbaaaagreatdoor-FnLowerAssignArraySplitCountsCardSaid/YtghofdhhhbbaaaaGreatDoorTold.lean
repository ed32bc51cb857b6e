/- The invalid reference, as the program's text lays it: what the law's row tells of it. No condition. -/
import Derived.Test.YtghofdhhhbbaaaaGreatDoorRows
import Derived.WalkKit
import Derived.ProofKit
import Derived.OpenVars
import Derived.MakeChecks
namespace Go.Proofs.YtghofdhhhbbaaaaGreatDoor.Use
open Go.ChangeShapes Go.WideShapes Go.ChangeAt Go.RowKit
theorem int_of_trod {H : Type} {enc : TypeId × Value → H} {P : Program} {w : World} {base : Nat} {sp : Nat → Bool} {held : Bool} {fuel : Nat} {t : TypeId} {k : IntKind} {c : Value} {y : DataW H × List MemPlace}
    (ht : P.underlying t = some (.int k)) (h : DataW.trod enc P w base sp held fuel t [c] = some y) : ∃ n, c = .int k n ∧ y = (.lit (.int k n), []) := by
  cases fuel with
  | zero => simp [DataW.trod] at h
  | succ fuel =>
    cases c <;> simp [DataW.trod, ht] at h
    rename_i k' n
    obtain ⟨⟨rfl, _⟩, rfl⟩ := h
    exact ⟨n, rfl, rfl⟩
set_option maxRecDepth 100000 in
theorem refOfLaid {W : World} {rest : List (String × DataW Unit)} (h : laidMet Tryz.prog (("github.com/evanw/esbuild/internal/ast.InvalidRef", Rows.laid_github_com_evanw_esbuild_internal_ast_InvalidRef) :: rest) W) : W.cell? ⟨0, 0, none⟩ = some (.int .u32 4294967295) ∧ W.cell? ⟨0, 1, none⟩ = some (.int .u32 4294967295) := by
  obtain ⟨ps, ⟨g0, t0, cs0, f0, p0, q0, hg0, ht0, hv0, hd0, _, _⟩, _, _⟩ := h
  obtain rfl : 0 = g0 := Option.some.inj (Eq.trans (by kernel_rfl) hg0)
  obtain rfl : 58 = t0 := Option.some.inj (Eq.trans (by kernel_rfl) ht0)
  have hc := World.var?_cell hg0 hv0
  cases f0 with
  | zero => simp [DataW.trod] at hd0
  | succ f0 =>
    simp only [DataW.trod, Tryz.underlying58] at hd0
    have c25 : Tryz.prog.cellsOf 58 = 2 := by kernel_rfl
    have c22 : Tryz.prog.cellsOf 32 = 1 := by kernel_rfl
    rw [c25] at hd0
    split at hd0
    · rename_i hl
      obtain ⟨l⟩ := cs0
      obtain ⟨c0, c1, rfl⟩ : ∃ c0 c1, l = [c0, c1] := by
        match l, hl with
        | [], h => exact absurd h (by decide)
        | [a], h => exact absurd h (by simp)
        | [a, b], _ => exact ⟨a, b, rfl⟩
        | a :: b :: c :: l, h => exact absurd h (by simp)
      simp only [c22, Option.map_eq_some_iff, List.mapM_cons, List.mapM_nil, Option.bind_eq_bind, Option.bind_eq_some_iff, Option.pure_def, Option.some.injEq, List.drop_zero, List.take_succ_cons, List.take_zero, List.drop_succ_cons] at hd0
      obtain ⟨xs, ⟨y0, h0, _, ⟨y1, h1, _, rfl, rfl⟩, rfl⟩, hx⟩ := hd0
      obtain ⟨n0, rfl, rfl⟩ := int_of_trod Tryz.underlying32 h0
      obtain ⟨n1, rfl, rfl⟩ := int_of_trod Tryz.underlying32 h1
      simp [Rows.laid_github_com_evanw_esbuild_internal_ast_InvalidRef] at hx
      obtain ⟨⟨rfl, rfl⟩, _⟩ := hx
      exact ⟨(hc 0).trans rfl, (hc 1).trans rfl⟩
    · cases hd0
end Go.Proofs.YtghofdhhhbbaaaaGreatDoor.Use
