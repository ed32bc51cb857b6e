/-
  DERIVED. GIVEN WITH THE SEED: THE PROGRAM's TIES (one call each: nine closed facts by the kernel) AND EACH ROW's TIE, after the 31st guide's Derived/Test/Toyas{Tie, Card}.lean. No idea stands in it: it is a product of the set-up. Laid BY PROGRAM, IN A SANDBOX (cutbox-door.mjs). By AI agents, Wed Nov 11 2026. No macro, syntax, notation, axiom, sorry.
-/
import Derived.Test.YtghofdhhhbbaaaaGreatDoorRows
import Derived.LaidByTextLater
import Derived.SevenTiedAt
import Derived.LaidSub
import Derived.LaidOnce
namespace Go.Proofs.YtghofdhhhbbaaaaGreatDoor
open Go
set_option maxRecDepth 100000
theorem seatTie1 : Tryz.prog.laidByTextLater [("github.com/evanw/esbuild/internal/ast.InvalidRef", Rows.laid_github_com_evanw_esbuild_internal_ast_InvalidRef)] [.data] true :=
  Program.laidByTextLater_by_one 14 8 3 (by kernel_rfl) (by kernel_rfl) (by kernel_rfl) (by kernel_rfl) (by kernel_rfl) (by kernel_rfl) (fun _ _ => by kernel_rfl)
theorem noOwnUnsafe : Tryz.pinned.checked.prog.headLifts.contains "ownunsafe" = false := by kernel_rfl
theorem tie : Tryz.prog.laidByTextLater [("github.com/evanw/esbuild/internal/ast.InvalidRef", Rows.laid_github_com_evanw_esbuild_internal_ast_InvalidRef)] [.data] true :=
  Program.laidByTextLater.sub seatTie1 ["github.com/evanw/esbuild/internal/ast.InvalidRef"] (by kernel_rfl) (by kernel_rfl)
theorem fnLowerAssignArraySplitCounts_row_tie : Rows.fnLowerAssignArraySplitCountsRow.laidByTextAt .later Tryz.pinned [.data] true :=
  OpenClaim.laidByTextAt_later rfl rfl tie noOwnUnsafe
theorem fnLowerAssignObjectCounts_row_tie : Rows.fnLowerAssignObjectCountsRow.laidByTextAt .later Tryz.pinned [.data] true :=
  OpenClaim.laidByTextAt_later rfl rfl tie noOwnUnsafe
theorem fnLowerAssignArraySplitCountsUpto_row_tie : Rows.fnLowerAssignArraySplitCountsUptoRow.laidByTextAt .later Tryz.pinned [.data] true :=
  OpenClaim.laidByTextAt_later rfl rfl tie noOwnUnsafe
theorem fnLowerAssignObjectCountsUpto_row_tie : Rows.fnLowerAssignObjectCountsUptoRow.laidByTextAt .later Tryz.pinned [.data] true :=
  OpenClaim.laidByTextAt_later rfl rfl tie noOwnUnsafe
end Go.Proofs.YtghofdhhhbbaaaaGreatDoor
