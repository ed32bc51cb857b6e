/-
  NARROWER THAN 'FOR EVERY INPUT', by the rows' own cells (each row's printed sentence says how): FnLowerNullishCoalescingLiteralLeftExact: laid · FnLowerLogicalAssignIdentifierExact: laid · FnLowerNullishCoalescingIdentifierExact: laid · FnLowerLogicalAssignIndexTargetExact: laid · FnLowerExponentIdentifierExact: laid · FnLowerExponentDotTargetExact: laid · FnLowerNullishAssignIdentifierExact: laid.
  DERIVED. THE GIVEN ROWS OF THIS SEAT. 7 by the template 'for every input the law returns true; each argument reads behind the call as it read before'; 0 by the template 'total and deterministic' (their statements: YtlgefnjkoklboaaDoorTotals.lean).
  GIVEN WITH THE SEED: the statements are not yours to turn. If you find one false, say at which input.
  Laid BY PROGRAM, IN A SANDBOX (cutbox-rows.mjs): the forced cells as the released guide's own fill.sh prints them over the translation 0d13a95cee2e5bbf… (all of the seat's roots in one cut). By AI agents, Wed Nov 11 2026. No macro, syntax, notation, axiom, sorry.
-/
import Derived.Test.YtlgefnjkoklboaaDoorChecked
import GoSem.Claim
import GoSem.ClaimJoined
import GoSem.ClaimMapViews
import Derived.JoinedTies
import Derived.KernelRfl
namespace Go.Proofs.YtlgefnjkoklboaaDoor
/- THE CELL 'sum', in the pinned program and in every row, IS THE sha256 OF THE DUMP (.gsa) THAT YtlgefnjkoklboaaDoorProg.lean LOADS. Nothing in Lean hashes anything: it is a label: what it is worth is what the hold of that sum in a sandbox is worth. -/
noncomputable def Tryd.pinned : Pinned := { name := "ytlgefnjkoklboaadoor", sum := "0d13a95cee2e5bbfc366da9f9e2be1c34013a9d30385ebca35a2111b2bf64785", checked := Tryd.checked }
namespace Rows
def none {H : Type} : Left H := { results := [], args := [] }

/- WHAT THE LISTED PACKAGE-LEVEL VARIABLES READ AS WHEN THE CALL BEGINS. Each datum BY PROGRAM (the guide's laid-datum.mjs) off the statement by which the dump's own 'gosem.cut.vars' lays the variable. In a bare row this is a premise. The card (YtlgefnjkoklboaaDoorCards.lean) ties it to the program's text. -/
def laid_github_com_evanw_esbuild_internal_ast_InvalidRef {H : Type} : DataW H := .agg [.lit (.int .u32 4294967295), .lit (.int .u32 4294967295)]

/-- 'n011_131.FnLowerNullishCoalescingLiteralLeftExact': WHATEVER THE INPUT: true; the input reads as it did. -/
def fnLowerNullishCoalescingLiteralLeftExactSpec : ChangeSpec := { name := "fnLowerNullishCoalescingLiteralLeftExact", vars := ["github.com/evanw/esbuild/internal/ast.InvalidRef"], fn := fun _ => fun
  | [d1, d2, d3, d4, d5, g1] => { results := [.lit (.bool true)], args := [d1, d2, d3, d4, d5], vars := [g1] }
  | _ => none }
def fnLowerNullishCoalescingLiteralLeftExactRow : OpenClaim := { program := "ytlgefnjkoklboaadoor", sum := "0d13a95cee2e5bbfc366da9f9e2be1c34013a9d30385ebca35a2111b2bf64785", func := "github.com/evanw/esbuild/n011_131.FnLowerNullishCoalescingLiteralLeftExact", spec := "fnLowerNullishCoalescingLiteralLeftExact", inPlace := ["internal/abi.NoEscape"], unfollowed := true, recurses := true, named := ["github.com/evanw/esbuild/internal/ast.InvalidRef"], plainKeys := false, apart := false, laid := [("github.com/evanw/esbuild/internal/ast.InvalidRef", laid_github_com_evanw_esbuild_internal_ast_InvalidRef)] }
def FnLowerNullishCoalescingLiteralLeftExactSaid : Prop := fnLowerNullishCoalescingLiteralLeftExactRow.holds Tryd.pinned (OpenSpec.ofChange fnLowerNullishCoalescingLiteralLeftExactSpec)

/-- ITS FALSE NEIGHBOUR: 'it returns false'. Refute it at one input. -/
def fnLowerNullishCoalescingLiteralLeftExactWrong : ChangeSpec := { name := "fnLowerNullishCoalescingLiteralLeftExact", vars := ["github.com/evanw/esbuild/internal/ast.InvalidRef"], fn := fun _ => fun
  | [d1, d2, d3, d4, d5, g1] => { results := [.lit (.bool false)], args := [d1, d2, d3, d4, d5], vars := [g1] }
  | _ => none }
def FnLowerNullishCoalescingLiteralLeftExactWrongFalsely : Prop := fnLowerNullishCoalescingLiteralLeftExactRow.holds Tryd.pinned (OpenSpec.ofChange fnLowerNullishCoalescingLiteralLeftExactWrong)

/-- 'n011_131.FnLowerLogicalAssignIdentifierExact': WHATEVER THE INPUT: true; the input reads as it did. -/
def fnLowerLogicalAssignIdentifierExactSpec : ChangeSpec := { name := "fnLowerLogicalAssignIdentifierExact", vars := ["github.com/evanw/esbuild/internal/ast.InvalidRef"], fn := fun _ => fun
  | [d1, d2, d3, d4, d5, d6, d7, d8, g1] => { results := [.lit (.bool true)], args := [d1, d2, d3, d4, d5, d6, d7, d8], vars := [g1] }
  | _ => none }
def fnLowerLogicalAssignIdentifierExactRow : OpenClaim := { program := "ytlgefnjkoklboaadoor", sum := "0d13a95cee2e5bbfc366da9f9e2be1c34013a9d30385ebca35a2111b2bf64785", func := "github.com/evanw/esbuild/n011_131.FnLowerLogicalAssignIdentifierExact", spec := "fnLowerLogicalAssignIdentifierExact", inPlace := ["internal/abi.NoEscape"], unfollowed := true, recurses := true, named := ["github.com/evanw/esbuild/internal/ast.InvalidRef"], plainKeys := false, apart := false, laid := [("github.com/evanw/esbuild/internal/ast.InvalidRef", laid_github_com_evanw_esbuild_internal_ast_InvalidRef)] }
def FnLowerLogicalAssignIdentifierExactSaid : Prop := fnLowerLogicalAssignIdentifierExactRow.holds Tryd.pinned (OpenSpec.ofChange fnLowerLogicalAssignIdentifierExactSpec)

/-- ITS FALSE NEIGHBOUR: 'it returns false'. Refute it at one input. -/
def fnLowerLogicalAssignIdentifierExactWrong : ChangeSpec := { name := "fnLowerLogicalAssignIdentifierExact", vars := ["github.com/evanw/esbuild/internal/ast.InvalidRef"], fn := fun _ => fun
  | [d1, d2, d3, d4, d5, d6, d7, d8, g1] => { results := [.lit (.bool false)], args := [d1, d2, d3, d4, d5, d6, d7, d8], vars := [g1] }
  | _ => none }
def FnLowerLogicalAssignIdentifierExactWrongFalsely : Prop := fnLowerLogicalAssignIdentifierExactRow.holds Tryd.pinned (OpenSpec.ofChange fnLowerLogicalAssignIdentifierExactWrong)

/-- 'n011_131.FnLowerNullishCoalescingIdentifierExact': WHATEVER THE INPUT: true; the input reads as it did. -/
def fnLowerNullishCoalescingIdentifierExactSpec : ChangeSpec := { name := "fnLowerNullishCoalescingIdentifierExact", vars := ["github.com/evanw/esbuild/internal/ast.InvalidRef"], fn := fun _ => fun
  | [d1, d2, d3, d4, d5, d6, g1] => { results := [.lit (.bool true)], args := [d1, d2, d3, d4, d5, d6], vars := [g1] }
  | _ => none }
def fnLowerNullishCoalescingIdentifierExactRow : OpenClaim := { program := "ytlgefnjkoklboaadoor", sum := "0d13a95cee2e5bbfc366da9f9e2be1c34013a9d30385ebca35a2111b2bf64785", func := "github.com/evanw/esbuild/n011_131.FnLowerNullishCoalescingIdentifierExact", spec := "fnLowerNullishCoalescingIdentifierExact", inPlace := ["internal/abi.NoEscape"], unfollowed := true, recurses := true, named := ["github.com/evanw/esbuild/internal/ast.InvalidRef"], plainKeys := false, apart := false, laid := [("github.com/evanw/esbuild/internal/ast.InvalidRef", laid_github_com_evanw_esbuild_internal_ast_InvalidRef)] }
def FnLowerNullishCoalescingIdentifierExactSaid : Prop := fnLowerNullishCoalescingIdentifierExactRow.holds Tryd.pinned (OpenSpec.ofChange fnLowerNullishCoalescingIdentifierExactSpec)

/-- ITS FALSE NEIGHBOUR: 'it returns false'. Refute it at one input. -/
def fnLowerNullishCoalescingIdentifierExactWrong : ChangeSpec := { name := "fnLowerNullishCoalescingIdentifierExact", vars := ["github.com/evanw/esbuild/internal/ast.InvalidRef"], fn := fun _ => fun
  | [d1, d2, d3, d4, d5, d6, g1] => { results := [.lit (.bool false)], args := [d1, d2, d3, d4, d5, d6], vars := [g1] }
  | _ => none }
def FnLowerNullishCoalescingIdentifierExactWrongFalsely : Prop := fnLowerNullishCoalescingIdentifierExactRow.holds Tryd.pinned (OpenSpec.ofChange fnLowerNullishCoalescingIdentifierExactWrong)

/-- 'n011_131.FnLowerLogicalAssignIndexTargetExact': WHATEVER THE INPUT: true; the input reads as it did. -/
def fnLowerLogicalAssignIndexTargetExactSpec : ChangeSpec := { name := "fnLowerLogicalAssignIndexTargetExact", vars := ["github.com/evanw/esbuild/internal/ast.InvalidRef"], fn := fun _ => fun
  | [d1, d2, d3, d4, d5, d6, d7, d8, d9, d10, g1] => { results := [.lit (.bool true)], args := [d1, d2, d3, d4, d5, d6, d7, d8, d9, d10], vars := [g1] }
  | _ => none }
def fnLowerLogicalAssignIndexTargetExactRow : OpenClaim := { program := "ytlgefnjkoklboaadoor", sum := "0d13a95cee2e5bbfc366da9f9e2be1c34013a9d30385ebca35a2111b2bf64785", func := "github.com/evanw/esbuild/n011_131.FnLowerLogicalAssignIndexTargetExact", spec := "fnLowerLogicalAssignIndexTargetExact", inPlace := ["internal/abi.NoEscape"], unfollowed := true, recurses := true, named := ["github.com/evanw/esbuild/internal/ast.InvalidRef"], plainKeys := false, apart := false, laid := [("github.com/evanw/esbuild/internal/ast.InvalidRef", laid_github_com_evanw_esbuild_internal_ast_InvalidRef)] }
def FnLowerLogicalAssignIndexTargetExactSaid : Prop := fnLowerLogicalAssignIndexTargetExactRow.holds Tryd.pinned (OpenSpec.ofChange fnLowerLogicalAssignIndexTargetExactSpec)

/-- ITS FALSE NEIGHBOUR: 'it returns false'. Refute it at one input. -/
def fnLowerLogicalAssignIndexTargetExactWrong : ChangeSpec := { name := "fnLowerLogicalAssignIndexTargetExact", vars := ["github.com/evanw/esbuild/internal/ast.InvalidRef"], fn := fun _ => fun
  | [d1, d2, d3, d4, d5, d6, d7, d8, d9, d10, g1] => { results := [.lit (.bool false)], args := [d1, d2, d3, d4, d5, d6, d7, d8, d9, d10], vars := [g1] }
  | _ => none }
def FnLowerLogicalAssignIndexTargetExactWrongFalsely : Prop := fnLowerLogicalAssignIndexTargetExactRow.holds Tryd.pinned (OpenSpec.ofChange fnLowerLogicalAssignIndexTargetExactWrong)

/-- 'n011_131.FnLowerExponentIdentifierExact': WHATEVER THE INPUT: true; the input reads as it did. -/
def fnLowerExponentIdentifierExactSpec : ChangeSpec := { name := "fnLowerExponentIdentifierExact", vars := ["github.com/evanw/esbuild/internal/ast.InvalidRef"], fn := fun _ => fun
  | [d1, d2, d3, d4, d5, d6, d7, d8, g1] => { results := [.lit (.bool true)], args := [d1, d2, d3, d4, d5, d6, d7, d8], vars := [g1] }
  | _ => none }
def fnLowerExponentIdentifierExactRow : OpenClaim := { program := "ytlgefnjkoklboaadoor", sum := "0d13a95cee2e5bbfc366da9f9e2be1c34013a9d30385ebca35a2111b2bf64785", func := "github.com/evanw/esbuild/n011_131.FnLowerExponentIdentifierExact", spec := "fnLowerExponentIdentifierExact", inPlace := ["internal/abi.NoEscape"], unfollowed := true, recurses := true, named := ["github.com/evanw/esbuild/internal/ast.InvalidRef"], plainKeys := false, apart := false, laid := [("github.com/evanw/esbuild/internal/ast.InvalidRef", laid_github_com_evanw_esbuild_internal_ast_InvalidRef)] }
def FnLowerExponentIdentifierExactSaid : Prop := fnLowerExponentIdentifierExactRow.holds Tryd.pinned (OpenSpec.ofChange fnLowerExponentIdentifierExactSpec)

/-- ITS FALSE NEIGHBOUR: 'it returns false'. Refute it at one input. -/
def fnLowerExponentIdentifierExactWrong : ChangeSpec := { name := "fnLowerExponentIdentifierExact", vars := ["github.com/evanw/esbuild/internal/ast.InvalidRef"], fn := fun _ => fun
  | [d1, d2, d3, d4, d5, d6, d7, d8, g1] => { results := [.lit (.bool false)], args := [d1, d2, d3, d4, d5, d6, d7, d8], vars := [g1] }
  | _ => none }
def FnLowerExponentIdentifierExactWrongFalsely : Prop := fnLowerExponentIdentifierExactRow.holds Tryd.pinned (OpenSpec.ofChange fnLowerExponentIdentifierExactWrong)

/-- 'n011_131.FnLowerExponentDotTargetExact': WHATEVER THE INPUT: true; the input reads as it did. -/
def fnLowerExponentDotTargetExactSpec : ChangeSpec := { name := "fnLowerExponentDotTargetExact", vars := ["github.com/evanw/esbuild/internal/ast.InvalidRef"], fn := fun _ => fun
  | [d1, d2, d3, d4, d5, d6, d7, d8, d9, d10, g1] => { results := [.lit (.bool true)], args := [d1, d2, d3, d4, d5, d6, d7, d8, d9, d10], vars := [g1] }
  | _ => none }
def fnLowerExponentDotTargetExactRow : OpenClaim := { program := "ytlgefnjkoklboaadoor", sum := "0d13a95cee2e5bbfc366da9f9e2be1c34013a9d30385ebca35a2111b2bf64785", func := "github.com/evanw/esbuild/n011_131.FnLowerExponentDotTargetExact", spec := "fnLowerExponentDotTargetExact", inPlace := ["internal/abi.NoEscape"], unfollowed := true, recurses := true, named := ["github.com/evanw/esbuild/internal/ast.InvalidRef"], plainKeys := false, apart := false, laid := [("github.com/evanw/esbuild/internal/ast.InvalidRef", laid_github_com_evanw_esbuild_internal_ast_InvalidRef)] }
def FnLowerExponentDotTargetExactSaid : Prop := fnLowerExponentDotTargetExactRow.holds Tryd.pinned (OpenSpec.ofChange fnLowerExponentDotTargetExactSpec)

/-- ITS FALSE NEIGHBOUR: 'it returns false'. Refute it at one input. -/
def fnLowerExponentDotTargetExactWrong : ChangeSpec := { name := "fnLowerExponentDotTargetExact", vars := ["github.com/evanw/esbuild/internal/ast.InvalidRef"], fn := fun _ => fun
  | [d1, d2, d3, d4, d5, d6, d7, d8, d9, d10, g1] => { results := [.lit (.bool false)], args := [d1, d2, d3, d4, d5, d6, d7, d8, d9, d10], vars := [g1] }
  | _ => none }
def FnLowerExponentDotTargetExactWrongFalsely : Prop := fnLowerExponentDotTargetExactRow.holds Tryd.pinned (OpenSpec.ofChange fnLowerExponentDotTargetExactWrong)

/-- 'n011_131.FnLowerNullishAssignIdentifierExact': WHATEVER THE INPUT: true; the input reads as it did. -/
def fnLowerNullishAssignIdentifierExactSpec : ChangeSpec := { name := "fnLowerNullishAssignIdentifierExact", vars := ["github.com/evanw/esbuild/internal/ast.InvalidRef"], fn := fun _ => fun
  | [d1, d2, d3, d4, d5, d6, d7, g1] => { results := [.lit (.bool true)], args := [d1, d2, d3, d4, d5, d6, d7], vars := [g1] }
  | _ => none }
def fnLowerNullishAssignIdentifierExactRow : OpenClaim := { program := "ytlgefnjkoklboaadoor", sum := "0d13a95cee2e5bbfc366da9f9e2be1c34013a9d30385ebca35a2111b2bf64785", func := "github.com/evanw/esbuild/n011_131.FnLowerNullishAssignIdentifierExact", spec := "fnLowerNullishAssignIdentifierExact", inPlace := ["internal/abi.NoEscape"], unfollowed := true, recurses := true, named := ["github.com/evanw/esbuild/internal/ast.InvalidRef"], plainKeys := false, apart := false, laid := [("github.com/evanw/esbuild/internal/ast.InvalidRef", laid_github_com_evanw_esbuild_internal_ast_InvalidRef)] }
def FnLowerNullishAssignIdentifierExactSaid : Prop := fnLowerNullishAssignIdentifierExactRow.holds Tryd.pinned (OpenSpec.ofChange fnLowerNullishAssignIdentifierExactSpec)

/-- ITS FALSE NEIGHBOUR: 'it returns false'. Refute it at one input. -/
def fnLowerNullishAssignIdentifierExactWrong : ChangeSpec := { name := "fnLowerNullishAssignIdentifierExact", vars := ["github.com/evanw/esbuild/internal/ast.InvalidRef"], fn := fun _ => fun
  | [d1, d2, d3, d4, d5, d6, d7, g1] => { results := [.lit (.bool false)], args := [d1, d2, d3, d4, d5, d6, d7], vars := [g1] }
  | _ => none }
def FnLowerNullishAssignIdentifierExactWrongFalsely : Prop := fnLowerNullishAssignIdentifierExactRow.holds Tryd.pinned (OpenSpec.ofChange fnLowerNullishAssignIdentifierExactWrong)

/- THE SECOND FORM. 'bulk': how many values and letters a reading holds, each counted each time it is reached (what is shared counts as often as it is met; a slice's spare places count too). A statement '..UptoSaid' is the law's where the arguments, and the package variables that the reading takes, are together of bulk at most 1048576: NARROWER than '..Said'. Prove '..Said' where nothing that the law and all that it calls make is longer than what came in: it says more and counts as full. Else prove '..UptoSaid'. A law counts once. -/
mutual
def uptoBulk {H : Type} : DataW H → Nat
  | .lit (.string bytes) => bytes.length + 1
  | .lit _ => 1
  | .nil => 1
  | .ptr d => uptoBulk d + 1
  | .slice elems spare => uptoBulkAll elems + uptoBulkAll spare + 1
  | .agg parts => uptoBulkAll parts + 1
  | .iface _ d => uptoBulk d + 1
  | .map entries => uptoBulkEntries entries + 1
  | .held _ => 1
def uptoBulkAll {H : Type} : List (DataW H) → Nat
  | [] => 0
  | d :: r => uptoBulk d + uptoBulkAll r
def uptoBulkEntries {H : Type} : List (Lit × DataW H) → Nat
  | [] => 0
  | x :: r => uptoBulkEntry x + uptoBulkEntries r
def uptoBulkEntry {H : Type} : Lit × DataW H → Nat
  | (.string bytes, d) => bytes.length + uptoBulk d + 1
  | (_, d) => uptoBulk d + 1
 end
def uptoSmall : (H : Type) → List (DataW H) → Bool := fun _ ds => decide (uptoBulkAll ds ≤ 1048576)
def OpenSpec.upto (s : _root_.Go.ChangeSpec) : _root_.Go.OpenSpec := { _root_.Go.OpenSpec.ofChange s with cond := some uptoSmall }

/-- 'n011_131.FnLowerNullishCoalescingLiteralLeftExact', WHERE WHAT IT READS IS OF BULK AT MOST 1048576: true; the input reads as it did. -/
def fnLowerNullishCoalescingLiteralLeftExactUptoRow : OpenClaim := { program := "ytlgefnjkoklboaadoor", sum := "0d13a95cee2e5bbfc366da9f9e2be1c34013a9d30385ebca35a2111b2bf64785", func := "github.com/evanw/esbuild/n011_131.FnLowerNullishCoalescingLiteralLeftExact", spec := "fnLowerNullishCoalescingLiteralLeftExact", inPlace := ["internal/abi.NoEscape"], unfollowed := true, recurses := true, named := ["github.com/evanw/esbuild/internal/ast.InvalidRef"], plainKeys := false, apart := false, laid := [("github.com/evanw/esbuild/internal/ast.InvalidRef", laid_github_com_evanw_esbuild_internal_ast_InvalidRef)], narrowed := true }
def FnLowerNullishCoalescingLiteralLeftExactUptoSaid : Prop := fnLowerNullishCoalescingLiteralLeftExactUptoRow.holds Tryd.pinned (OpenSpec.upto fnLowerNullishCoalescingLiteralLeftExactSpec)

/-- 'n011_131.FnLowerLogicalAssignIdentifierExact', WHERE WHAT IT READS IS OF BULK AT MOST 1048576: true; the input reads as it did. -/
def fnLowerLogicalAssignIdentifierExactUptoRow : OpenClaim := { program := "ytlgefnjkoklboaadoor", sum := "0d13a95cee2e5bbfc366da9f9e2be1c34013a9d30385ebca35a2111b2bf64785", func := "github.com/evanw/esbuild/n011_131.FnLowerLogicalAssignIdentifierExact", spec := "fnLowerLogicalAssignIdentifierExact", inPlace := ["internal/abi.NoEscape"], unfollowed := true, recurses := true, named := ["github.com/evanw/esbuild/internal/ast.InvalidRef"], plainKeys := false, apart := false, laid := [("github.com/evanw/esbuild/internal/ast.InvalidRef", laid_github_com_evanw_esbuild_internal_ast_InvalidRef)], narrowed := true }
def FnLowerLogicalAssignIdentifierExactUptoSaid : Prop := fnLowerLogicalAssignIdentifierExactUptoRow.holds Tryd.pinned (OpenSpec.upto fnLowerLogicalAssignIdentifierExactSpec)

/-- 'n011_131.FnLowerNullishCoalescingIdentifierExact', WHERE WHAT IT READS IS OF BULK AT MOST 1048576: true; the input reads as it did. -/
def fnLowerNullishCoalescingIdentifierExactUptoRow : OpenClaim := { program := "ytlgefnjkoklboaadoor", sum := "0d13a95cee2e5bbfc366da9f9e2be1c34013a9d30385ebca35a2111b2bf64785", func := "github.com/evanw/esbuild/n011_131.FnLowerNullishCoalescingIdentifierExact", spec := "fnLowerNullishCoalescingIdentifierExact", inPlace := ["internal/abi.NoEscape"], unfollowed := true, recurses := true, named := ["github.com/evanw/esbuild/internal/ast.InvalidRef"], plainKeys := false, apart := false, laid := [("github.com/evanw/esbuild/internal/ast.InvalidRef", laid_github_com_evanw_esbuild_internal_ast_InvalidRef)], narrowed := true }
def FnLowerNullishCoalescingIdentifierExactUptoSaid : Prop := fnLowerNullishCoalescingIdentifierExactUptoRow.holds Tryd.pinned (OpenSpec.upto fnLowerNullishCoalescingIdentifierExactSpec)

/-- 'n011_131.FnLowerLogicalAssignIndexTargetExact', WHERE WHAT IT READS IS OF BULK AT MOST 1048576: true; the input reads as it did. -/
def fnLowerLogicalAssignIndexTargetExactUptoRow : OpenClaim := { program := "ytlgefnjkoklboaadoor", sum := "0d13a95cee2e5bbfc366da9f9e2be1c34013a9d30385ebca35a2111b2bf64785", func := "github.com/evanw/esbuild/n011_131.FnLowerLogicalAssignIndexTargetExact", spec := "fnLowerLogicalAssignIndexTargetExact", inPlace := ["internal/abi.NoEscape"], unfollowed := true, recurses := true, named := ["github.com/evanw/esbuild/internal/ast.InvalidRef"], plainKeys := false, apart := false, laid := [("github.com/evanw/esbuild/internal/ast.InvalidRef", laid_github_com_evanw_esbuild_internal_ast_InvalidRef)], narrowed := true }
def FnLowerLogicalAssignIndexTargetExactUptoSaid : Prop := fnLowerLogicalAssignIndexTargetExactUptoRow.holds Tryd.pinned (OpenSpec.upto fnLowerLogicalAssignIndexTargetExactSpec)

/-- 'n011_131.FnLowerExponentIdentifierExact', WHERE WHAT IT READS IS OF BULK AT MOST 1048576: true; the input reads as it did. -/
def fnLowerExponentIdentifierExactUptoRow : OpenClaim := { program := "ytlgefnjkoklboaadoor", sum := "0d13a95cee2e5bbfc366da9f9e2be1c34013a9d30385ebca35a2111b2bf64785", func := "github.com/evanw/esbuild/n011_131.FnLowerExponentIdentifierExact", spec := "fnLowerExponentIdentifierExact", inPlace := ["internal/abi.NoEscape"], unfollowed := true, recurses := true, named := ["github.com/evanw/esbuild/internal/ast.InvalidRef"], plainKeys := false, apart := false, laid := [("github.com/evanw/esbuild/internal/ast.InvalidRef", laid_github_com_evanw_esbuild_internal_ast_InvalidRef)], narrowed := true }
def FnLowerExponentIdentifierExactUptoSaid : Prop := fnLowerExponentIdentifierExactUptoRow.holds Tryd.pinned (OpenSpec.upto fnLowerExponentIdentifierExactSpec)

/-- 'n011_131.FnLowerExponentDotTargetExact', WHERE WHAT IT READS IS OF BULK AT MOST 1048576: true; the input reads as it did. -/
def fnLowerExponentDotTargetExactUptoRow : OpenClaim := { program := "ytlgefnjkoklboaadoor", sum := "0d13a95cee2e5bbfc366da9f9e2be1c34013a9d30385ebca35a2111b2bf64785", func := "github.com/evanw/esbuild/n011_131.FnLowerExponentDotTargetExact", spec := "fnLowerExponentDotTargetExact", inPlace := ["internal/abi.NoEscape"], unfollowed := true, recurses := true, named := ["github.com/evanw/esbuild/internal/ast.InvalidRef"], plainKeys := false, apart := false, laid := [("github.com/evanw/esbuild/internal/ast.InvalidRef", laid_github_com_evanw_esbuild_internal_ast_InvalidRef)], narrowed := true }
def FnLowerExponentDotTargetExactUptoSaid : Prop := fnLowerExponentDotTargetExactUptoRow.holds Tryd.pinned (OpenSpec.upto fnLowerExponentDotTargetExactSpec)

/-- 'n011_131.FnLowerNullishAssignIdentifierExact', WHERE WHAT IT READS IS OF BULK AT MOST 1048576: true; the input reads as it did. -/
def fnLowerNullishAssignIdentifierExactUptoRow : OpenClaim := { program := "ytlgefnjkoklboaadoor", sum := "0d13a95cee2e5bbfc366da9f9e2be1c34013a9d30385ebca35a2111b2bf64785", func := "github.com/evanw/esbuild/n011_131.FnLowerNullishAssignIdentifierExact", spec := "fnLowerNullishAssignIdentifierExact", inPlace := ["internal/abi.NoEscape"], unfollowed := true, recurses := true, named := ["github.com/evanw/esbuild/internal/ast.InvalidRef"], plainKeys := false, apart := false, laid := [("github.com/evanw/esbuild/internal/ast.InvalidRef", laid_github_com_evanw_esbuild_internal_ast_InvalidRef)], narrowed := true }
def FnLowerNullishAssignIdentifierExactUptoSaid : Prop := fnLowerNullishAssignIdentifierExactUptoRow.holds Tryd.pinned (OpenSpec.upto fnLowerNullishAssignIdentifierExactSpec)

end Rows
end Go.Proofs.YtlgefnjkoklboaaDoor
