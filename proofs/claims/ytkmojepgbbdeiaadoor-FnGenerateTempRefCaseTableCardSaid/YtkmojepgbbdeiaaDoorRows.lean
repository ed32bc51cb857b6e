/-
  NARROWER THAN 'FOR EVERY INPUT', by the rows' own cells (each row's printed sentence says how): FnTopLevelTempRefScript: laid · FnTempNamesAgreeAndRefsStayDistinct: laid · FnGenerateTempRefCaseTable: laid.
  DERIVED. THE GIVEN ROWS OF THIS SEAT. 3 by the template 'for every input the law returns true; each argument reads behind the call as it read before'; 0 by the template 'total and deterministic' (their statements: YtkmojepgbbdeiaaDoorTotals.lean).
  GIVEN WITH THE SEED: the statements are not yours to turn. If you find one false, say at which input.
  Laid BY PROGRAM, IN A SANDBOX (cutbox-rows.mjs): the forced cells as the released guide's own fill.sh prints them over the translation fd39e88eeff3836d… (all of the seat's roots in one cut). By AI agents, Wed Nov 11 2026. No macro, syntax, notation, axiom, sorry.
-/
import Derived.Test.YtkmojepgbbdeiaaDoorChecked
import GoSem.Claim
import GoSem.ClaimJoined
import GoSem.ClaimMapViews
import Derived.JoinedTies
import Derived.KernelRfl
namespace Go.Proofs.YtkmojepgbbdeiaaDoor
/- THE CELL 'sum', in the pinned program and in every row, IS THE sha256 OF THE DUMP (.gsa) THAT YtkmojepgbbdeiaaDoorProg.lean LOADS. Nothing in Lean hashes anything: it is a label: what it is worth is what the hold of that sum in a sandbox is worth. -/
noncomputable def Tryd.pinned : Pinned := { name := "ytkmojepgbbdeiaadoor", sum := "fd39e88eeff3836d94a9f93de874e60de8040097cc8df3384d6ee2791cc80362", checked := Tryd.checked }
namespace Rows
def none {H : Type} : Left H := { results := [], args := [] }

/- WHAT THE LISTED PACKAGE-LEVEL VARIABLES READ AS WHEN THE CALL BEGINS. Each datum BY PROGRAM (the guide's laid-datum.mjs) off the statement by which the dump's own 'gosem.cut.vars' lays the variable. In a bare row this is a premise. The card (YtkmojepgbbdeiaaDoorCards.lean) ties it to the program's text. -/
def laid_github_com_evanw_esbuild_internal_ast_InvalidRef {H : Type} : DataW H := .agg [.lit (.int .u32 4294967295), .lit (.int .u32 4294967295)]

/-- 'n011_222.FnTopLevelTempRefScript': WHATEVER THE INPUT: true; the input reads as it did. -/
def fnTopLevelTempRefScriptSpec : ChangeSpec := { name := "fnTopLevelTempRefScript", vars := ["github.com/evanw/esbuild/internal/ast.InvalidRef"], fn := fun _ => fun
  | [d1, d2, d3, d4, g1] => { results := [.lit (.bool true)], args := [d1, d2, d3, d4], vars := [g1] }
  | _ => none }
def fnTopLevelTempRefScriptRow : OpenClaim := { program := "ytkmojepgbbdeiaadoor", sum := "fd39e88eeff3836d94a9f93de874e60de8040097cc8df3384d6ee2791cc80362", func := "github.com/evanw/esbuild/n011_222.FnTopLevelTempRefScript", spec := "fnTopLevelTempRefScript", inPlace := ["internal/abi.NoEscape"], named := ["github.com/evanw/esbuild/internal/ast.InvalidRef"], plainKeys := false, apart := false, laid := [("github.com/evanw/esbuild/internal/ast.InvalidRef", laid_github_com_evanw_esbuild_internal_ast_InvalidRef)] }
def FnTopLevelTempRefScriptSaid : Prop := fnTopLevelTempRefScriptRow.holds Tryd.pinned (OpenSpec.ofChange fnTopLevelTempRefScriptSpec)

/-- ITS FALSE NEIGHBOUR: 'it returns false'. Refute it at one input. -/
def fnTopLevelTempRefScriptWrong : ChangeSpec := { name := "fnTopLevelTempRefScript", vars := ["github.com/evanw/esbuild/internal/ast.InvalidRef"], fn := fun _ => fun
  | [d1, d2, d3, d4, g1] => { results := [.lit (.bool false)], args := [d1, d2, d3, d4], vars := [g1] }
  | _ => none }
def FnTopLevelTempRefScriptWrongFalsely : Prop := fnTopLevelTempRefScriptRow.holds Tryd.pinned (OpenSpec.ofChange fnTopLevelTempRefScriptWrong)

/-- 'n011_222.FnTempNamesAgreeAndRefsStayDistinct': WHATEVER THE INPUT: true; the input reads as it did. -/
def fnTempNamesAgreeAndRefsStayDistinctSpec : ChangeSpec := { name := "fnTempNamesAgreeAndRefsStayDistinct", vars := ["github.com/evanw/esbuild/internal/ast.InvalidRef"], fn := fun _ => fun
  | [d1, d2, d3, g1] => { results := [.lit (.bool true)], args := [d1, d2, d3], vars := [g1] }
  | _ => none }
def fnTempNamesAgreeAndRefsStayDistinctRow : OpenClaim := { program := "ytkmojepgbbdeiaadoor", sum := "fd39e88eeff3836d94a9f93de874e60de8040097cc8df3384d6ee2791cc80362", func := "github.com/evanw/esbuild/n011_222.FnTempNamesAgreeAndRefsStayDistinct", spec := "fnTempNamesAgreeAndRefsStayDistinct", inPlace := ["internal/abi.NoEscape"], named := ["github.com/evanw/esbuild/internal/ast.InvalidRef"], plainKeys := false, apart := false, laid := [("github.com/evanw/esbuild/internal/ast.InvalidRef", laid_github_com_evanw_esbuild_internal_ast_InvalidRef)] }
def FnTempNamesAgreeAndRefsStayDistinctSaid : Prop := fnTempNamesAgreeAndRefsStayDistinctRow.holds Tryd.pinned (OpenSpec.ofChange fnTempNamesAgreeAndRefsStayDistinctSpec)

/-- ITS FALSE NEIGHBOUR: 'it returns false'. Refute it at one input. -/
def fnTempNamesAgreeAndRefsStayDistinctWrong : ChangeSpec := { name := "fnTempNamesAgreeAndRefsStayDistinct", vars := ["github.com/evanw/esbuild/internal/ast.InvalidRef"], fn := fun _ => fun
  | [d1, d2, d3, g1] => { results := [.lit (.bool false)], args := [d1, d2, d3], vars := [g1] }
  | _ => none }
def FnTempNamesAgreeAndRefsStayDistinctWrongFalsely : Prop := fnTempNamesAgreeAndRefsStayDistinctRow.holds Tryd.pinned (OpenSpec.ofChange fnTempNamesAgreeAndRefsStayDistinctWrong)

/-- 'n011_222.FnGenerateTempRefCaseTable': WHATEVER THE INPUT: true; the input reads as it did. -/
def fnGenerateTempRefCaseTableSpec : ChangeSpec := { name := "fnGenerateTempRefCaseTable", vars := ["github.com/evanw/esbuild/internal/ast.InvalidRef"], fn := fun _ => fun
  | [d1, d2, d3, d4, d5, d6, d7, g1] => { results := [.lit (.bool true)], args := [d1, d2, d3, d4, d5, d6, d7], vars := [g1] }
  | _ => none }
def fnGenerateTempRefCaseTableRow : OpenClaim := { program := "ytkmojepgbbdeiaadoor", sum := "fd39e88eeff3836d94a9f93de874e60de8040097cc8df3384d6ee2791cc80362", func := "github.com/evanw/esbuild/n011_222.FnGenerateTempRefCaseTable", spec := "fnGenerateTempRefCaseTable", inPlace := ["internal/abi.NoEscape"], named := ["github.com/evanw/esbuild/internal/ast.InvalidRef"], plainKeys := false, apart := false, laid := [("github.com/evanw/esbuild/internal/ast.InvalidRef", laid_github_com_evanw_esbuild_internal_ast_InvalidRef)] }
def FnGenerateTempRefCaseTableSaid : Prop := fnGenerateTempRefCaseTableRow.holds Tryd.pinned (OpenSpec.ofChange fnGenerateTempRefCaseTableSpec)

/-- ITS FALSE NEIGHBOUR: 'it returns false'. Refute it at one input. -/
def fnGenerateTempRefCaseTableWrong : ChangeSpec := { name := "fnGenerateTempRefCaseTable", vars := ["github.com/evanw/esbuild/internal/ast.InvalidRef"], fn := fun _ => fun
  | [d1, d2, d3, d4, d5, d6, d7, g1] => { results := [.lit (.bool false)], args := [d1, d2, d3, d4, d5, d6, d7], vars := [g1] }
  | _ => none }
def FnGenerateTempRefCaseTableWrongFalsely : Prop := fnGenerateTempRefCaseTableRow.holds Tryd.pinned (OpenSpec.ofChange fnGenerateTempRefCaseTableWrong)

/- THE SECOND FORM. 'bulk': how many values and letters a reading holds, each counted each time it is reached (what is shared counts as often as it is met; a slice's spare places count too). A statement '..UptoSaid' is the law's where the arguments, and the package variables that the reading takes, are together of bulk at most 1048576: NARROWER than '..Said'. Prove '..Said' where nothing that the law and all that it calls make is longer than what came in: it says more and counts as full. Else prove '..UptoSaid'. A law counts once. -/
mutual
def uptoBulk {H : Type} : DataW H → Nat
  | .lit (.string bytes) => bytes.length + 1
  | .lit _ => 1
  | .nil => 1
  | .ptr d => uptoBulk d + 1
  | .slice elems spare => uptoBulkAll elems + uptoBulkAll spare + 1
  | .agg parts => uptoBulkAll parts + 1
  | .iface _ d => uptoBulk d + 1
  | .map entries => uptoBulkEntries entries + 1
  | .held _ => 1
def uptoBulkAll {H : Type} : List (DataW H) → Nat
  | [] => 0
  | d :: r => uptoBulk d + uptoBulkAll r
def uptoBulkEntries {H : Type} : List (Lit × DataW H) → Nat
  | [] => 0
  | x :: r => uptoBulkEntry x + uptoBulkEntries r
def uptoBulkEntry {H : Type} : Lit × DataW H → Nat
  | (.string bytes, d) => bytes.length + uptoBulk d + 1
  | (_, d) => uptoBulk d + 1
 end
def uptoSmall : (H : Type) → List (DataW H) → Bool := fun _ ds => decide (uptoBulkAll ds ≤ 1048576)
def OpenSpec.upto (s : _root_.Go.ChangeSpec) : _root_.Go.OpenSpec := { _root_.Go.OpenSpec.ofChange s with cond := some uptoSmall }

/-- 'n011_222.FnTopLevelTempRefScript', WHERE WHAT IT READS IS OF BULK AT MOST 1048576: true; the input reads as it did. -/
def fnTopLevelTempRefScriptUptoRow : OpenClaim := { program := "ytkmojepgbbdeiaadoor", sum := "fd39e88eeff3836d94a9f93de874e60de8040097cc8df3384d6ee2791cc80362", func := "github.com/evanw/esbuild/n011_222.FnTopLevelTempRefScript", spec := "fnTopLevelTempRefScript", inPlace := ["internal/abi.NoEscape"], named := ["github.com/evanw/esbuild/internal/ast.InvalidRef"], plainKeys := false, apart := false, laid := [("github.com/evanw/esbuild/internal/ast.InvalidRef", laid_github_com_evanw_esbuild_internal_ast_InvalidRef)], narrowed := true }
def FnTopLevelTempRefScriptUptoSaid : Prop := fnTopLevelTempRefScriptUptoRow.holds Tryd.pinned (OpenSpec.upto fnTopLevelTempRefScriptSpec)

/-- 'n011_222.FnTempNamesAgreeAndRefsStayDistinct', WHERE WHAT IT READS IS OF BULK AT MOST 1048576: true; the input reads as it did. -/
def fnTempNamesAgreeAndRefsStayDistinctUptoRow : OpenClaim := { program := "ytkmojepgbbdeiaadoor", sum := "fd39e88eeff3836d94a9f93de874e60de8040097cc8df3384d6ee2791cc80362", func := "github.com/evanw/esbuild/n011_222.FnTempNamesAgreeAndRefsStayDistinct", spec := "fnTempNamesAgreeAndRefsStayDistinct", inPlace := ["internal/abi.NoEscape"], named := ["github.com/evanw/esbuild/internal/ast.InvalidRef"], plainKeys := false, apart := false, laid := [("github.com/evanw/esbuild/internal/ast.InvalidRef", laid_github_com_evanw_esbuild_internal_ast_InvalidRef)], narrowed := true }
def FnTempNamesAgreeAndRefsStayDistinctUptoSaid : Prop := fnTempNamesAgreeAndRefsStayDistinctUptoRow.holds Tryd.pinned (OpenSpec.upto fnTempNamesAgreeAndRefsStayDistinctSpec)

/-- 'n011_222.FnGenerateTempRefCaseTable', WHERE WHAT IT READS IS OF BULK AT MOST 1048576: true; the input reads as it did. -/
def fnGenerateTempRefCaseTableUptoRow : OpenClaim := { program := "ytkmojepgbbdeiaadoor", sum := "fd39e88eeff3836d94a9f93de874e60de8040097cc8df3384d6ee2791cc80362", func := "github.com/evanw/esbuild/n011_222.FnGenerateTempRefCaseTable", spec := "fnGenerateTempRefCaseTable", inPlace := ["internal/abi.NoEscape"], named := ["github.com/evanw/esbuild/internal/ast.InvalidRef"], plainKeys := false, apart := false, laid := [("github.com/evanw/esbuild/internal/ast.InvalidRef", laid_github_com_evanw_esbuild_internal_ast_InvalidRef)], narrowed := true }
def FnGenerateTempRefCaseTableUptoSaid : Prop := fnGenerateTempRefCaseTableUptoRow.holds Tryd.pinned (OpenSpec.upto fnGenerateTempRefCaseTableSpec)

end Rows
end Go.Proofs.YtkmojepgbbdeiaaDoor
