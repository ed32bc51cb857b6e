/-
  NARROWER THAN 'FOR EVERY INPUT', by the rows' own cells (each row's printed sentence says how): FnShouldLowerSuperPropertyAccessAgreesWithAssignLowering: laid · FnCallSuperPropertyWrapperAgreesWithSuperGet: laid · FnLowerSuperPropertyGetFreshNodes: laid · FnLowerSuperPropertyOrPrivateInAssignIdempotent: laid.
  DERIVED. THE GIVEN ROWS OF THIS SEAT. 4 by the template 'for every input the law returns true; each argument reads behind the call as it read before'; 0 by the template 'total and deterministic' (their statements: YtcbdjbjbikiaeaaDoorTotals.lean).
  GIVEN WITH THE SEED: the statements are not yours to turn. If you find one false, say at which input.
  Laid BY PROGRAM, IN A SANDBOX (cutbox-rows.mjs): the forced cells as the released guide's own fill.sh prints them over the translation 72d1f70a4a1ea226… (all of the seat's roots in one cut). By AI agents, Wed Nov 11 2026. No macro, syntax, notation, axiom, sorry.
-/
import Derived.Test.YtcbdjbjbikiaeaaDoorChecked
import GoSem.Claim
import GoSem.ClaimJoined
import GoSem.ClaimMapViews
import Derived.JoinedTies
import Derived.KernelRfl
namespace Go.Proofs.YtcbdjbjbikiaeaaDoor
/- THE CELL 'sum', in the pinned program and in every row, IS THE sha256 OF THE DUMP (.gsa) THAT YtcbdjbjbikiaeaaDoorProg.lean LOADS. Nothing in Lean hashes anything: it is a label: what it is worth is what the hold of that sum in a sandbox is worth. -/
noncomputable def Tryd.pinned : Pinned := { name := "ytcbdjbjbikiaeaadoor", sum := "72d1f70a4a1ea2267647fafaef6f75e2b8cee9003a2b98da3fcf838e7286c9b6", checked := Tryd.checked }
namespace Rows
def none {H : Type} : Left H := { results := [], args := [] }

/- WHAT THE LISTED PACKAGE-LEVEL VARIABLES READ AS WHEN THE CALL BEGINS. Each datum BY PROGRAM (the guide's laid-datum.mjs) off the statement by which the dump's own 'gosem.cut.vars' lays the variable. In a bare row this is a premise. The card (YtcbdjbjbikiaeaaDoorCards.lean) ties it to the program's text. -/
def laid_github_com_evanw_esbuild_internal_ast_InvalidRef {H : Type} : DataW H := .agg [.lit (.int .u32 4294967295), .lit (.int .u32 4294967295)]

/-- 'n011_145.FnShouldLowerSuperPropertyAccessAgreesWithAssignLowering': WHATEVER THE INPUT: true; the input reads as it did. -/
def fnShouldLowerSuperPropertyAccessAgreesWithAssignLoweringSpec : ChangeSpec := { name := "fnShouldLowerSuperPropertyAccessAgreesWithAssignLowering", vars := ["github.com/evanw/esbuild/internal/ast.InvalidRef"], fn := fun _ => fun
  | [d1, d2, d3, d4, d5, d6, d7, g1] => { results := [.lit (.bool true)], args := [d1, d2, d3, d4, d5, d6, d7], vars := [g1] }
  | _ => none }
def fnShouldLowerSuperPropertyAccessAgreesWithAssignLoweringRow : OpenClaim := { program := "ytcbdjbjbikiaeaadoor", sum := "72d1f70a4a1ea2267647fafaef6f75e2b8cee9003a2b98da3fcf838e7286c9b6", func := "github.com/evanw/esbuild/n011_145.FnShouldLowerSuperPropertyAccessAgreesWithAssignLowering", spec := "fnShouldLowerSuperPropertyAccessAgreesWithAssignLowering", recurses := true, named := ["github.com/evanw/esbuild/internal/ast.InvalidRef"], plainKeys := false, apart := false, laid := [("github.com/evanw/esbuild/internal/ast.InvalidRef", laid_github_com_evanw_esbuild_internal_ast_InvalidRef)] }
def FnShouldLowerSuperPropertyAccessAgreesWithAssignLoweringSaid : Prop := fnShouldLowerSuperPropertyAccessAgreesWithAssignLoweringRow.holds Tryd.pinned (OpenSpec.ofChange fnShouldLowerSuperPropertyAccessAgreesWithAssignLoweringSpec)

/-- ITS FALSE NEIGHBOUR: 'it returns false'. Refute it at one input. -/
def fnShouldLowerSuperPropertyAccessAgreesWithAssignLoweringWrong : ChangeSpec := { name := "fnShouldLowerSuperPropertyAccessAgreesWithAssignLowering", vars := ["github.com/evanw/esbuild/internal/ast.InvalidRef"], fn := fun _ => fun
  | [d1, d2, d3, d4, d5, d6, d7, g1] => { results := [.lit (.bool false)], args := [d1, d2, d3, d4, d5, d6, d7], vars := [g1] }
  | _ => none }
def FnShouldLowerSuperPropertyAccessAgreesWithAssignLoweringWrongFalsely : Prop := fnShouldLowerSuperPropertyAccessAgreesWithAssignLoweringRow.holds Tryd.pinned (OpenSpec.ofChange fnShouldLowerSuperPropertyAccessAgreesWithAssignLoweringWrong)

/-- 'n011_145.FnCallSuperPropertyWrapperAgreesWithSuperGet': WHATEVER THE INPUT: true; the input reads as it did. -/
def fnCallSuperPropertyWrapperAgreesWithSuperGetSpec : ChangeSpec := { name := "fnCallSuperPropertyWrapperAgreesWithSuperGet", vars := ["github.com/evanw/esbuild/internal/ast.InvalidRef"], fn := fun _ => fun
  | [d1, d2, d3, d4, d5, g1] => { results := [.lit (.bool true)], args := [d1, d2, d3, d4, d5], vars := [g1] }
  | _ => none }
def fnCallSuperPropertyWrapperAgreesWithSuperGetRow : OpenClaim := { program := "ytcbdjbjbikiaeaadoor", sum := "72d1f70a4a1ea2267647fafaef6f75e2b8cee9003a2b98da3fcf838e7286c9b6", func := "github.com/evanw/esbuild/n011_145.FnCallSuperPropertyWrapperAgreesWithSuperGet", spec := "fnCallSuperPropertyWrapperAgreesWithSuperGet", recurses := true, named := ["github.com/evanw/esbuild/internal/ast.InvalidRef"], plainKeys := false, apart := false, laid := [("github.com/evanw/esbuild/internal/ast.InvalidRef", laid_github_com_evanw_esbuild_internal_ast_InvalidRef)] }
def FnCallSuperPropertyWrapperAgreesWithSuperGetSaid : Prop := fnCallSuperPropertyWrapperAgreesWithSuperGetRow.holds Tryd.pinned (OpenSpec.ofChange fnCallSuperPropertyWrapperAgreesWithSuperGetSpec)

/-- ITS FALSE NEIGHBOUR: 'it returns false'. Refute it at one input. -/
def fnCallSuperPropertyWrapperAgreesWithSuperGetWrong : ChangeSpec := { name := "fnCallSuperPropertyWrapperAgreesWithSuperGet", vars := ["github.com/evanw/esbuild/internal/ast.InvalidRef"], fn := fun _ => fun
  | [d1, d2, d3, d4, d5, g1] => { results := [.lit (.bool false)], args := [d1, d2, d3, d4, d5], vars := [g1] }
  | _ => none }
def FnCallSuperPropertyWrapperAgreesWithSuperGetWrongFalsely : Prop := fnCallSuperPropertyWrapperAgreesWithSuperGetRow.holds Tryd.pinned (OpenSpec.ofChange fnCallSuperPropertyWrapperAgreesWithSuperGetWrong)

/-- 'n011_145.FnLowerSuperPropertyGetFreshNodes': WHATEVER THE INPUT: true; the input reads as it did. -/
def fnLowerSuperPropertyGetFreshNodesSpec : ChangeSpec := { name := "fnLowerSuperPropertyGetFreshNodes", vars := ["github.com/evanw/esbuild/internal/ast.InvalidRef"], fn := fun _ => fun
  | [d1, d2, d3, d4, d5, g1] => { results := [.lit (.bool true)], args := [d1, d2, d3, d4, d5], vars := [g1] }
  | _ => none }
def fnLowerSuperPropertyGetFreshNodesRow : OpenClaim := { program := "ytcbdjbjbikiaeaadoor", sum := "72d1f70a4a1ea2267647fafaef6f75e2b8cee9003a2b98da3fcf838e7286c9b6", func := "github.com/evanw/esbuild/n011_145.FnLowerSuperPropertyGetFreshNodes", spec := "fnLowerSuperPropertyGetFreshNodes", recurses := true, named := ["github.com/evanw/esbuild/internal/ast.InvalidRef"], plainKeys := false, apart := false, laid := [("github.com/evanw/esbuild/internal/ast.InvalidRef", laid_github_com_evanw_esbuild_internal_ast_InvalidRef)] }
def FnLowerSuperPropertyGetFreshNodesSaid : Prop := fnLowerSuperPropertyGetFreshNodesRow.holds Tryd.pinned (OpenSpec.ofChange fnLowerSuperPropertyGetFreshNodesSpec)

/-- ITS FALSE NEIGHBOUR: 'it returns false'. Refute it at one input. -/
def fnLowerSuperPropertyGetFreshNodesWrong : ChangeSpec := { name := "fnLowerSuperPropertyGetFreshNodes", vars := ["github.com/evanw/esbuild/internal/ast.InvalidRef"], fn := fun _ => fun
  | [d1, d2, d3, d4, d5, g1] => { results := [.lit (.bool false)], args := [d1, d2, d3, d4, d5], vars := [g1] }
  | _ => none }
def FnLowerSuperPropertyGetFreshNodesWrongFalsely : Prop := fnLowerSuperPropertyGetFreshNodesRow.holds Tryd.pinned (OpenSpec.ofChange fnLowerSuperPropertyGetFreshNodesWrong)

/-- 'n011_145.FnLowerSuperPropertyOrPrivateInAssignIdempotent': WHATEVER THE INPUT: true; the input reads as it did. -/
def fnLowerSuperPropertyOrPrivateInAssignIdempotentSpec : ChangeSpec := { name := "fnLowerSuperPropertyOrPrivateInAssignIdempotent", vars := ["github.com/evanw/esbuild/internal/ast.InvalidRef"], fn := fun _ => fun
  | [d1, d2, d3, d4, d5, g1] => { results := [.lit (.bool true)], args := [d1, d2, d3, d4, d5], vars := [g1] }
  | _ => none }
def fnLowerSuperPropertyOrPrivateInAssignIdempotentRow : OpenClaim := { program := "ytcbdjbjbikiaeaadoor", sum := "72d1f70a4a1ea2267647fafaef6f75e2b8cee9003a2b98da3fcf838e7286c9b6", func := "github.com/evanw/esbuild/n011_145.FnLowerSuperPropertyOrPrivateInAssignIdempotent", spec := "fnLowerSuperPropertyOrPrivateInAssignIdempotent", recurses := true, named := ["github.com/evanw/esbuild/internal/ast.InvalidRef"], plainKeys := false, apart := false, laid := [("github.com/evanw/esbuild/internal/ast.InvalidRef", laid_github_com_evanw_esbuild_internal_ast_InvalidRef)] }
def FnLowerSuperPropertyOrPrivateInAssignIdempotentSaid : Prop := fnLowerSuperPropertyOrPrivateInAssignIdempotentRow.holds Tryd.pinned (OpenSpec.ofChange fnLowerSuperPropertyOrPrivateInAssignIdempotentSpec)

/-- ITS FALSE NEIGHBOUR: 'it returns false'. Refute it at one input. -/
def fnLowerSuperPropertyOrPrivateInAssignIdempotentWrong : ChangeSpec := { name := "fnLowerSuperPropertyOrPrivateInAssignIdempotent", vars := ["github.com/evanw/esbuild/internal/ast.InvalidRef"], fn := fun _ => fun
  | [d1, d2, d3, d4, d5, g1] => { results := [.lit (.bool false)], args := [d1, d2, d3, d4, d5], vars := [g1] }
  | _ => none }
def FnLowerSuperPropertyOrPrivateInAssignIdempotentWrongFalsely : Prop := fnLowerSuperPropertyOrPrivateInAssignIdempotentRow.holds Tryd.pinned (OpenSpec.ofChange fnLowerSuperPropertyOrPrivateInAssignIdempotentWrong)

/- THE SECOND FORM. 'bulk': how many values and letters a reading holds, each counted each time it is reached (what is shared counts as often as it is met; a slice's spare places count too). A statement '..UptoSaid' is the law's where the arguments, and the package variables that the reading takes, are together of bulk at most 1048576: NARROWER than '..Said'. Prove '..Said' where nothing that the law and all that it calls make is longer than what came in: it says more and counts as full. Else prove '..UptoSaid'. A law counts once. -/
mutual
def uptoBulk {H : Type} : DataW H → Nat
  | .lit (.string bytes) => bytes.length + 1
  | .lit _ => 1
  | .nil => 1
  | .ptr d => uptoBulk d + 1
  | .slice elems spare => uptoBulkAll elems + uptoBulkAll spare + 1
  | .agg parts => uptoBulkAll parts + 1
  | .iface _ d => uptoBulk d + 1
  | .map entries => uptoBulkEntries entries + 1
  | .held _ => 1
def uptoBulkAll {H : Type} : List (DataW H) → Nat
  | [] => 0
  | d :: r => uptoBulk d + uptoBulkAll r
def uptoBulkEntries {H : Type} : List (Lit × DataW H) → Nat
  | [] => 0
  | x :: r => uptoBulkEntry x + uptoBulkEntries r
def uptoBulkEntry {H : Type} : Lit × DataW H → Nat
  | (.string bytes, d) => bytes.length + uptoBulk d + 1
  | (_, d) => uptoBulk d + 1
 end
def uptoSmall : (H : Type) → List (DataW H) → Bool := fun _ ds => decide (uptoBulkAll ds ≤ 1048576)
def OpenSpec.upto (s : _root_.Go.ChangeSpec) : _root_.Go.OpenSpec := { _root_.Go.OpenSpec.ofChange s with cond := some uptoSmall }

/-- 'n011_145.FnShouldLowerSuperPropertyAccessAgreesWithAssignLowering', WHERE WHAT IT READS IS OF BULK AT MOST 1048576: true; the input reads as it did. -/
def fnShouldLowerSuperPropertyAccessAgreesWithAssignLoweringUptoRow : OpenClaim := { program := "ytcbdjbjbikiaeaadoor", sum := "72d1f70a4a1ea2267647fafaef6f75e2b8cee9003a2b98da3fcf838e7286c9b6", func := "github.com/evanw/esbuild/n011_145.FnShouldLowerSuperPropertyAccessAgreesWithAssignLowering", spec := "fnShouldLowerSuperPropertyAccessAgreesWithAssignLowering", recurses := true, named := ["github.com/evanw/esbuild/internal/ast.InvalidRef"], plainKeys := false, apart := false, laid := [("github.com/evanw/esbuild/internal/ast.InvalidRef", laid_github_com_evanw_esbuild_internal_ast_InvalidRef)], narrowed := true }
def FnShouldLowerSuperPropertyAccessAgreesWithAssignLoweringUptoSaid : Prop := fnShouldLowerSuperPropertyAccessAgreesWithAssignLoweringUptoRow.holds Tryd.pinned (OpenSpec.upto fnShouldLowerSuperPropertyAccessAgreesWithAssignLoweringSpec)

/-- 'n011_145.FnCallSuperPropertyWrapperAgreesWithSuperGet', WHERE WHAT IT READS IS OF BULK AT MOST 1048576: true; the input reads as it did. -/
def fnCallSuperPropertyWrapperAgreesWithSuperGetUptoRow : OpenClaim := { program := "ytcbdjbjbikiaeaadoor", sum := "72d1f70a4a1ea2267647fafaef6f75e2b8cee9003a2b98da3fcf838e7286c9b6", func := "github.com/evanw/esbuild/n011_145.FnCallSuperPropertyWrapperAgreesWithSuperGet", spec := "fnCallSuperPropertyWrapperAgreesWithSuperGet", recurses := true, named := ["github.com/evanw/esbuild/internal/ast.InvalidRef"], plainKeys := false, apart := false, laid := [("github.com/evanw/esbuild/internal/ast.InvalidRef", laid_github_com_evanw_esbuild_internal_ast_InvalidRef)], narrowed := true }
def FnCallSuperPropertyWrapperAgreesWithSuperGetUptoSaid : Prop := fnCallSuperPropertyWrapperAgreesWithSuperGetUptoRow.holds Tryd.pinned (OpenSpec.upto fnCallSuperPropertyWrapperAgreesWithSuperGetSpec)

/-- 'n011_145.FnLowerSuperPropertyGetFreshNodes', WHERE WHAT IT READS IS OF BULK AT MOST 1048576: true; the input reads as it did. -/
def fnLowerSuperPropertyGetFreshNodesUptoRow : OpenClaim := { program := "ytcbdjbjbikiaeaadoor", sum := "72d1f70a4a1ea2267647fafaef6f75e2b8cee9003a2b98da3fcf838e7286c9b6", func := "github.com/evanw/esbuild/n011_145.FnLowerSuperPropertyGetFreshNodes", spec := "fnLowerSuperPropertyGetFreshNodes", recurses := true, named := ["github.com/evanw/esbuild/internal/ast.InvalidRef"], plainKeys := false, apart := false, laid := [("github.com/evanw/esbuild/internal/ast.InvalidRef", laid_github_com_evanw_esbuild_internal_ast_InvalidRef)], narrowed := true }
def FnLowerSuperPropertyGetFreshNodesUptoSaid : Prop := fnLowerSuperPropertyGetFreshNodesUptoRow.holds Tryd.pinned (OpenSpec.upto fnLowerSuperPropertyGetFreshNodesSpec)

/-- 'n011_145.FnLowerSuperPropertyOrPrivateInAssignIdempotent', WHERE WHAT IT READS IS OF BULK AT MOST 1048576: true; the input reads as it did. -/
def fnLowerSuperPropertyOrPrivateInAssignIdempotentUptoRow : OpenClaim := { program := "ytcbdjbjbikiaeaadoor", sum := "72d1f70a4a1ea2267647fafaef6f75e2b8cee9003a2b98da3fcf838e7286c9b6", func := "github.com/evanw/esbuild/n011_145.FnLowerSuperPropertyOrPrivateInAssignIdempotent", spec := "fnLowerSuperPropertyOrPrivateInAssignIdempotent", recurses := true, named := ["github.com/evanw/esbuild/internal/ast.InvalidRef"], plainKeys := false, apart := false, laid := [("github.com/evanw/esbuild/internal/ast.InvalidRef", laid_github_com_evanw_esbuild_internal_ast_InvalidRef)], narrowed := true }
def FnLowerSuperPropertyOrPrivateInAssignIdempotentUptoSaid : Prop := fnLowerSuperPropertyOrPrivateInAssignIdempotentUptoRow.holds Tryd.pinned (OpenSpec.upto fnLowerSuperPropertyOrPrivateInAssignIdempotentSpec)

end Rows
end Go.Proofs.YtcbdjbjbikiaeaaDoor
