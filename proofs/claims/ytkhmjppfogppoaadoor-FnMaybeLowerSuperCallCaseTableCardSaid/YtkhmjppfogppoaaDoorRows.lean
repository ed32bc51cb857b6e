/-
  NARROWER THAN 'FOR EVERY INPUT', by the rows' own cells (each row's printed sentence says how): FnSuperSetHelperReused: laid · FnSuperSetBinOpThenSetScript: laid · FnSuperSetCaseTable: laid · FnMaybeLowerSuperCallIdempotent: laid · FnMaybeLowerSuperCallCaseTable: laid.
  DERIVED. THE GIVEN ROWS OF THIS SEAT. 5 by the template 'for every input the law returns true; each argument reads behind the call as it read before'; 0 by the template 'total and deterministic' (their statements: YtkhmjppfogppoaaDoorTotals.lean).
  GIVEN WITH THE SEED: the statements are not yours to turn. If you find one false, say at which input.
  Laid BY PROGRAM, IN A SANDBOX (cutbox-rows.mjs): the forced cells as the released guide's own fill.sh prints them over the translation 7a4fdb62176077d2… (all of the seat's roots in one cut). By AI agents, Wed Nov 11 2026. No macro, syntax, notation, axiom, sorry.
-/
import Derived.Test.YtkhmjppfogppoaaDoorChecked
import GoSem.Claim
import GoSem.ClaimJoined
import GoSem.ClaimMapViews
import Derived.JoinedTies
import Derived.KernelRfl
namespace Go.Proofs.YtkhmjppfogppoaaDoor
/- THE CELL 'sum', in the pinned program and in every row, IS THE sha256 OF THE DUMP (.gsa) THAT YtkhmjppfogppoaaDoorProg.lean LOADS. Nothing in Lean hashes anything: it is a label: what it is worth is what the hold of that sum in a sandbox is worth. -/
noncomputable def Tryd.pinned : Pinned := { name := "ytkhmjppfogppoaadoor", sum := "7a4fdb62176077d2492789a423ed4fa3e602b39619d5bf5c1ad309fa0d381f64", checked := Tryd.checked }
namespace Rows
def none {H : Type} : Left H := { results := [], args := [] }

/- WHAT THE LISTED PACKAGE-LEVEL VARIABLES READ AS WHEN THE CALL BEGINS. Each datum BY PROGRAM (the guide's laid-datum.mjs) off the statement by which the dump's own 'gosem.cut.vars' lays the variable. In a bare row this is a premise. The card (YtkhmjppfogppoaaDoorCards.lean) ties it to the program's text. -/
def laid_github_com_evanw_esbuild_internal_ast_InvalidRef {H : Type} : DataW H := .agg [.lit (.int .u32 4294967295), .lit (.int .u32 4294967295)]

/-- 'n011_212.FnSuperSetHelperReused': WHATEVER THE INPUT: true; the input reads as it did. -/
def fnSuperSetHelperReusedSpec : ChangeSpec := { name := "fnSuperSetHelperReused", vars := ["github.com/evanw/esbuild/internal/ast.InvalidRef"], fn := fun _ => fun
  | [d1, d2, d3, d4, d5, g1] => { results := [.lit (.bool true)], args := [d1, d2, d3, d4, d5], vars := [g1] }
  | _ => none }
def fnSuperSetHelperReusedRow : OpenClaim := { program := "ytkhmjppfogppoaadoor", sum := "7a4fdb62176077d2492789a423ed4fa3e602b39619d5bf5c1ad309fa0d381f64", func := "github.com/evanw/esbuild/n011_212.FnSuperSetHelperReused", spec := "fnSuperSetHelperReused", named := ["github.com/evanw/esbuild/internal/ast.InvalidRef"], plainKeys := false, apart := false, laid := [("github.com/evanw/esbuild/internal/ast.InvalidRef", laid_github_com_evanw_esbuild_internal_ast_InvalidRef)] }
def FnSuperSetHelperReusedSaid : Prop := fnSuperSetHelperReusedRow.holds Tryd.pinned (OpenSpec.ofChange fnSuperSetHelperReusedSpec)

/-- ITS FALSE NEIGHBOUR: 'it returns false'. Refute it at one input. -/
def fnSuperSetHelperReusedWrong : ChangeSpec := { name := "fnSuperSetHelperReused", vars := ["github.com/evanw/esbuild/internal/ast.InvalidRef"], fn := fun _ => fun
  | [d1, d2, d3, d4, d5, g1] => { results := [.lit (.bool false)], args := [d1, d2, d3, d4, d5], vars := [g1] }
  | _ => none }
def FnSuperSetHelperReusedWrongFalsely : Prop := fnSuperSetHelperReusedRow.holds Tryd.pinned (OpenSpec.ofChange fnSuperSetHelperReusedWrong)

/-- 'n011_212.FnSuperSetBinOpThenSetScript': WHATEVER THE INPUT: true; the input reads as it did. -/
def fnSuperSetBinOpThenSetScriptSpec : ChangeSpec := { name := "fnSuperSetBinOpThenSetScript", vars := ["github.com/evanw/esbuild/internal/ast.InvalidRef"], fn := fun _ => fun
  | [d1, d2, d3, d4, d5, d6, g1] => { results := [.lit (.bool true)], args := [d1, d2, d3, d4, d5, d6], vars := [g1] }
  | _ => none }
def fnSuperSetBinOpThenSetScriptRow : OpenClaim := { program := "ytkhmjppfogppoaadoor", sum := "7a4fdb62176077d2492789a423ed4fa3e602b39619d5bf5c1ad309fa0d381f64", func := "github.com/evanw/esbuild/n011_212.FnSuperSetBinOpThenSetScript", spec := "fnSuperSetBinOpThenSetScript", inPlace := ["internal/abi.NoEscape"], unfollowed := true, recurses := true, named := ["github.com/evanw/esbuild/internal/ast.InvalidRef"], plainKeys := false, apart := false, laid := [("github.com/evanw/esbuild/internal/ast.InvalidRef", laid_github_com_evanw_esbuild_internal_ast_InvalidRef)] }
def FnSuperSetBinOpThenSetScriptSaid : Prop := fnSuperSetBinOpThenSetScriptRow.holds Tryd.pinned (OpenSpec.ofChange fnSuperSetBinOpThenSetScriptSpec)

/-- ITS FALSE NEIGHBOUR: 'it returns false'. Refute it at one input. -/
def fnSuperSetBinOpThenSetScriptWrong : ChangeSpec := { name := "fnSuperSetBinOpThenSetScript", vars := ["github.com/evanw/esbuild/internal/ast.InvalidRef"], fn := fun _ => fun
  | [d1, d2, d3, d4, d5, d6, g1] => { results := [.lit (.bool false)], args := [d1, d2, d3, d4, d5, d6], vars := [g1] }
  | _ => none }
def FnSuperSetBinOpThenSetScriptWrongFalsely : Prop := fnSuperSetBinOpThenSetScriptRow.holds Tryd.pinned (OpenSpec.ofChange fnSuperSetBinOpThenSetScriptWrong)

/-- 'n011_212.FnSuperSetCaseTable': WHATEVER THE INPUT: true; the input reads as it did. -/
def fnSuperSetCaseTableSpec : ChangeSpec := { name := "fnSuperSetCaseTable", vars := ["github.com/evanw/esbuild/internal/ast.InvalidRef"], fn := fun _ => fun
  | [d1, d2, d3, d4, d5, g1] => { results := [.lit (.bool true)], args := [d1, d2, d3, d4, d5], vars := [g1] }
  | _ => none }
def fnSuperSetCaseTableRow : OpenClaim := { program := "ytkhmjppfogppoaadoor", sum := "7a4fdb62176077d2492789a423ed4fa3e602b39619d5bf5c1ad309fa0d381f64", func := "github.com/evanw/esbuild/n011_212.FnSuperSetCaseTable", spec := "fnSuperSetCaseTable", named := ["github.com/evanw/esbuild/internal/ast.InvalidRef"], plainKeys := false, apart := false, laid := [("github.com/evanw/esbuild/internal/ast.InvalidRef", laid_github_com_evanw_esbuild_internal_ast_InvalidRef)] }
def FnSuperSetCaseTableSaid : Prop := fnSuperSetCaseTableRow.holds Tryd.pinned (OpenSpec.ofChange fnSuperSetCaseTableSpec)

/-- ITS FALSE NEIGHBOUR: 'it returns false'. Refute it at one input. -/
def fnSuperSetCaseTableWrong : ChangeSpec := { name := "fnSuperSetCaseTable", vars := ["github.com/evanw/esbuild/internal/ast.InvalidRef"], fn := fun _ => fun
  | [d1, d2, d3, d4, d5, g1] => { results := [.lit (.bool false)], args := [d1, d2, d3, d4, d5], vars := [g1] }
  | _ => none }
def FnSuperSetCaseTableWrongFalsely : Prop := fnSuperSetCaseTableRow.holds Tryd.pinned (OpenSpec.ofChange fnSuperSetCaseTableWrong)

/-- 'n011_212.FnMaybeLowerSuperCallIdempotent': WHATEVER THE INPUT: true; the input reads as it did. -/
def fnMaybeLowerSuperCallIdempotentSpec : ChangeSpec := { name := "fnMaybeLowerSuperCallIdempotent", vars := ["github.com/evanw/esbuild/internal/ast.InvalidRef"], fn := fun _ => fun
  | [d1, d2, d3, d4, d5, d6, d7, d8, g1] => { results := [.lit (.bool true)], args := [d1, d2, d3, d4, d5, d6, d7, d8], vars := [g1] }
  | _ => none }
def fnMaybeLowerSuperCallIdempotentRow : OpenClaim := { program := "ytkhmjppfogppoaadoor", sum := "7a4fdb62176077d2492789a423ed4fa3e602b39619d5bf5c1ad309fa0d381f64", func := "github.com/evanw/esbuild/n011_212.FnMaybeLowerSuperCallIdempotent", spec := "fnMaybeLowerSuperCallIdempotent", named := ["github.com/evanw/esbuild/internal/ast.InvalidRef"], plainKeys := false, apart := false, laid := [("github.com/evanw/esbuild/internal/ast.InvalidRef", laid_github_com_evanw_esbuild_internal_ast_InvalidRef)] }
def FnMaybeLowerSuperCallIdempotentSaid : Prop := fnMaybeLowerSuperCallIdempotentRow.holds Tryd.pinned (OpenSpec.ofChange fnMaybeLowerSuperCallIdempotentSpec)

/-- ITS FALSE NEIGHBOUR: 'it returns false'. Refute it at one input. -/
def fnMaybeLowerSuperCallIdempotentWrong : ChangeSpec := { name := "fnMaybeLowerSuperCallIdempotent", vars := ["github.com/evanw/esbuild/internal/ast.InvalidRef"], fn := fun _ => fun
  | [d1, d2, d3, d4, d5, d6, d7, d8, g1] => { results := [.lit (.bool false)], args := [d1, d2, d3, d4, d5, d6, d7, d8], vars := [g1] }
  | _ => none }
def FnMaybeLowerSuperCallIdempotentWrongFalsely : Prop := fnMaybeLowerSuperCallIdempotentRow.holds Tryd.pinned (OpenSpec.ofChange fnMaybeLowerSuperCallIdempotentWrong)

/-- 'n011_212.FnMaybeLowerSuperCallCaseTable': WHATEVER THE INPUT: true; the input reads as it did. -/
def fnMaybeLowerSuperCallCaseTableSpec : ChangeSpec := { name := "fnMaybeLowerSuperCallCaseTable", vars := ["github.com/evanw/esbuild/internal/ast.InvalidRef"], fn := fun _ => fun
  | [d1, d2, d3, d4, d5, d6, d7, d8, g1] => { results := [.lit (.bool true)], args := [d1, d2, d3, d4, d5, d6, d7, d8], vars := [g1] }
  | _ => none }
def fnMaybeLowerSuperCallCaseTableRow : OpenClaim := { program := "ytkhmjppfogppoaadoor", sum := "7a4fdb62176077d2492789a423ed4fa3e602b39619d5bf5c1ad309fa0d381f64", func := "github.com/evanw/esbuild/n011_212.FnMaybeLowerSuperCallCaseTable", spec := "fnMaybeLowerSuperCallCaseTable", named := ["github.com/evanw/esbuild/internal/ast.InvalidRef"], plainKeys := false, apart := false, laid := [("github.com/evanw/esbuild/internal/ast.InvalidRef", laid_github_com_evanw_esbuild_internal_ast_InvalidRef)] }
def FnMaybeLowerSuperCallCaseTableSaid : Prop := fnMaybeLowerSuperCallCaseTableRow.holds Tryd.pinned (OpenSpec.ofChange fnMaybeLowerSuperCallCaseTableSpec)

/-- ITS FALSE NEIGHBOUR: 'it returns false'. Refute it at one input. -/
def fnMaybeLowerSuperCallCaseTableWrong : ChangeSpec := { name := "fnMaybeLowerSuperCallCaseTable", vars := ["github.com/evanw/esbuild/internal/ast.InvalidRef"], fn := fun _ => fun
  | [d1, d2, d3, d4, d5, d6, d7, d8, g1] => { results := [.lit (.bool false)], args := [d1, d2, d3, d4, d5, d6, d7, d8], vars := [g1] }
  | _ => none }
def FnMaybeLowerSuperCallCaseTableWrongFalsely : Prop := fnMaybeLowerSuperCallCaseTableRow.holds Tryd.pinned (OpenSpec.ofChange fnMaybeLowerSuperCallCaseTableWrong)

/- THE SECOND FORM. 'bulk': how many values and letters a reading holds, each counted each time it is reached (what is shared counts as often as it is met; a slice's spare places count too). A statement '..UptoSaid' is the law's where the arguments, and the package variables that the reading takes, are together of bulk at most 1048576: NARROWER than '..Said'. Prove '..Said' where nothing that the law and all that it calls make is longer than what came in: it says more and counts as full. Else prove '..UptoSaid'. A law counts once. -/
mutual
def uptoBulk {H : Type} : DataW H → Nat
  | .lit (.string bytes) => bytes.length + 1
  | .lit _ => 1
  | .nil => 1
  | .ptr d => uptoBulk d + 1
  | .slice elems spare => uptoBulkAll elems + uptoBulkAll spare + 1
  | .agg parts => uptoBulkAll parts + 1
  | .iface _ d => uptoBulk d + 1
  | .map entries => uptoBulkEntries entries + 1
  | .held _ => 1
def uptoBulkAll {H : Type} : List (DataW H) → Nat
  | [] => 0
  | d :: r => uptoBulk d + uptoBulkAll r
def uptoBulkEntries {H : Type} : List (Lit × DataW H) → Nat
  | [] => 0
  | x :: r => uptoBulkEntry x + uptoBulkEntries r
def uptoBulkEntry {H : Type} : Lit × DataW H → Nat
  | (.string bytes, d) => bytes.length + uptoBulk d + 1
  | (_, d) => uptoBulk d + 1
 end
def uptoSmall : (H : Type) → List (DataW H) → Bool := fun _ ds => decide (uptoBulkAll ds ≤ 1048576)
def OpenSpec.upto (s : _root_.Go.ChangeSpec) : _root_.Go.OpenSpec := { _root_.Go.OpenSpec.ofChange s with cond := some uptoSmall }

/-- 'n011_212.FnSuperSetHelperReused', WHERE WHAT IT READS IS OF BULK AT MOST 1048576: true; the input reads as it did. -/
def fnSuperSetHelperReusedUptoRow : OpenClaim := { program := "ytkhmjppfogppoaadoor", sum := "7a4fdb62176077d2492789a423ed4fa3e602b39619d5bf5c1ad309fa0d381f64", func := "github.com/evanw/esbuild/n011_212.FnSuperSetHelperReused", spec := "fnSuperSetHelperReused", named := ["github.com/evanw/esbuild/internal/ast.InvalidRef"], plainKeys := false, apart := false, laid := [("github.com/evanw/esbuild/internal/ast.InvalidRef", laid_github_com_evanw_esbuild_internal_ast_InvalidRef)], narrowed := true }
def FnSuperSetHelperReusedUptoSaid : Prop := fnSuperSetHelperReusedUptoRow.holds Tryd.pinned (OpenSpec.upto fnSuperSetHelperReusedSpec)

/-- 'n011_212.FnSuperSetBinOpThenSetScript', WHERE WHAT IT READS IS OF BULK AT MOST 1048576: true; the input reads as it did. -/
def fnSuperSetBinOpThenSetScriptUptoRow : OpenClaim := { program := "ytkhmjppfogppoaadoor", sum := "7a4fdb62176077d2492789a423ed4fa3e602b39619d5bf5c1ad309fa0d381f64", func := "github.com/evanw/esbuild/n011_212.FnSuperSetBinOpThenSetScript", spec := "fnSuperSetBinOpThenSetScript", inPlace := ["internal/abi.NoEscape"], unfollowed := true, recurses := true, named := ["github.com/evanw/esbuild/internal/ast.InvalidRef"], plainKeys := false, apart := false, laid := [("github.com/evanw/esbuild/internal/ast.InvalidRef", laid_github_com_evanw_esbuild_internal_ast_InvalidRef)], narrowed := true }
def FnSuperSetBinOpThenSetScriptUptoSaid : Prop := fnSuperSetBinOpThenSetScriptUptoRow.holds Tryd.pinned (OpenSpec.upto fnSuperSetBinOpThenSetScriptSpec)

/-- 'n011_212.FnSuperSetCaseTable', WHERE WHAT IT READS IS OF BULK AT MOST 1048576: true; the input reads as it did. -/
def fnSuperSetCaseTableUptoRow : OpenClaim := { program := "ytkhmjppfogppoaadoor", sum := "7a4fdb62176077d2492789a423ed4fa3e602b39619d5bf5c1ad309fa0d381f64", func := "github.com/evanw/esbuild/n011_212.FnSuperSetCaseTable", spec := "fnSuperSetCaseTable", named := ["github.com/evanw/esbuild/internal/ast.InvalidRef"], plainKeys := false, apart := false, laid := [("github.com/evanw/esbuild/internal/ast.InvalidRef", laid_github_com_evanw_esbuild_internal_ast_InvalidRef)], narrowed := true }
def FnSuperSetCaseTableUptoSaid : Prop := fnSuperSetCaseTableUptoRow.holds Tryd.pinned (OpenSpec.upto fnSuperSetCaseTableSpec)

/-- 'n011_212.FnMaybeLowerSuperCallIdempotent', WHERE WHAT IT READS IS OF BULK AT MOST 1048576: true; the input reads as it did. -/
def fnMaybeLowerSuperCallIdempotentUptoRow : OpenClaim := { program := "ytkhmjppfogppoaadoor", sum := "7a4fdb62176077d2492789a423ed4fa3e602b39619d5bf5c1ad309fa0d381f64", func := "github.com/evanw/esbuild/n011_212.FnMaybeLowerSuperCallIdempotent", spec := "fnMaybeLowerSuperCallIdempotent", named := ["github.com/evanw/esbuild/internal/ast.InvalidRef"], plainKeys := false, apart := false, laid := [("github.com/evanw/esbuild/internal/ast.InvalidRef", laid_github_com_evanw_esbuild_internal_ast_InvalidRef)], narrowed := true }
def FnMaybeLowerSuperCallIdempotentUptoSaid : Prop := fnMaybeLowerSuperCallIdempotentUptoRow.holds Tryd.pinned (OpenSpec.upto fnMaybeLowerSuperCallIdempotentSpec)

/-- 'n011_212.FnMaybeLowerSuperCallCaseTable', WHERE WHAT IT READS IS OF BULK AT MOST 1048576: true; the input reads as it did. -/
def fnMaybeLowerSuperCallCaseTableUptoRow : OpenClaim := { program := "ytkhmjppfogppoaadoor", sum := "7a4fdb62176077d2492789a423ed4fa3e602b39619d5bf5c1ad309fa0d381f64", func := "github.com/evanw/esbuild/n011_212.FnMaybeLowerSuperCallCaseTable", spec := "fnMaybeLowerSuperCallCaseTable", named := ["github.com/evanw/esbuild/internal/ast.InvalidRef"], plainKeys := false, apart := false, laid := [("github.com/evanw/esbuild/internal/ast.InvalidRef", laid_github_com_evanw_esbuild_internal_ast_InvalidRef)], narrowed := true }
def FnMaybeLowerSuperCallCaseTableUptoSaid : Prop := fnMaybeLowerSuperCallCaseTableUptoRow.holds Tryd.pinned (OpenSpec.upto fnMaybeLowerSuperCallCaseTableSpec)

end Rows
end Go.Proofs.YtkhmjppfogppoaaDoor
