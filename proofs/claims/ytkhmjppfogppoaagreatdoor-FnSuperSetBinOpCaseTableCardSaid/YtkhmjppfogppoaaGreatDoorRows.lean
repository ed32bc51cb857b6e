/-
  NARROWER THAN 'FOR EVERY INPUT', by the rows' own cells (each row's printed sentence says how): FnMaybeLowerSetBinOpNonMemberTargetIsRefused: laid · FnMaybeLowerSetBinOpUnloweredMemberIsRefused: laid · FnSuperSetBinOpCaseTable: laid.
  DERIVED. THE GIVEN ROWS OF THIS SEAT. 3 by the template 'for every input the law returns true; each argument reads behind the call as it read before'; 0 by the template 'total and deterministic' (their statements: YtkhmjppfogppoaaGreatDoorTotals.lean).
  GIVEN WITH THE SEED: the statements are not yours to turn. If you find one false, say at which input.
  Laid BY PROGRAM, IN A SANDBOX (cutbox-rows.mjs): the forced cells as the released guide's own fill.sh prints them over the translation b5616029de4cb18d… (all of the seat's roots in one cut). By AI agents, Wed Nov 11 2026. No macro, syntax, notation, axiom, sorry.
-/
import Derived.Test.YtkhmjppfogppoaaGreatDoorChecked
import GoSem.Claim
import GoSem.ClaimJoined
import GoSem.ClaimMapViews
import Derived.JoinedTies
import Derived.KernelRfl
namespace Go.Proofs.YtkhmjppfogppoaaGreatDoor
/- THE CELL 'sum', in the pinned program and in every row, IS THE sha256 OF THE DUMP (.gsa) THAT YtkhmjppfogppoaaGreatDoorProg.lean LOADS. Nothing in Lean hashes anything: it is a label: what it is worth is what the hold of that sum in a sandbox is worth. -/
noncomputable def Tryz.pinned : Pinned := { name := "ytkhmjppfogppoaagreatdoor", sum := "b5616029de4cb18d2a47dec9f027ee4b1ba9b24d6ba84c693ad923b466e6e9bc", checked := Tryz.checked }
namespace Rows
def none {H : Type} : Left H := { results := [], args := [] }

/- WHAT THE LISTED PACKAGE-LEVEL VARIABLES READ AS WHEN THE CALL BEGINS. Each datum BY PROGRAM (the guide's laid-datum.mjs) off the statement by which the dump's own 'gosem.cut.vars' lays the variable. In a bare row this is a premise. The card (YtkhmjppfogppoaaGreatDoorCards.lean) ties it to the program's text. -/
def laid_github_com_evanw_esbuild_internal_ast_InvalidRef {H : Type} : DataW H := .agg [.lit (.int .u32 4294967295), .lit (.int .u32 4294967295)]

/-- 'n011_42.FnMaybeLowerSetBinOpNonMemberTargetIsRefused': WHATEVER THE INPUT: true; the input reads as it did. -/
def fnMaybeLowerSetBinOpNonMemberTargetIsRefusedSpec : ChangeSpec := { name := "fnMaybeLowerSetBinOpNonMemberTargetIsRefused", vars := ["github.com/evanw/esbuild/internal/ast.InvalidRef"], fn := fun _ => fun
  | [d1, d2, d3, d4, d5, d6, d7, d8, g1] => { results := [.lit (.bool true)], args := [d1, d2, d3, d4, d5, d6, d7, d8], vars := [g1] }
  | _ => none }
def fnMaybeLowerSetBinOpNonMemberTargetIsRefusedRow : OpenClaim := { program := "ytkhmjppfogppoaagreatdoor", sum := "b5616029de4cb18d2a47dec9f027ee4b1ba9b24d6ba84c693ad923b466e6e9bc", func := "github.com/evanw/esbuild/n011_42.FnMaybeLowerSetBinOpNonMemberTargetIsRefused", spec := "fnMaybeLowerSetBinOpNonMemberTargetIsRefused", inPlace := ["internal/abi.NoEscape"], unfollowed := true, recurses := true, named := ["github.com/evanw/esbuild/internal/ast.InvalidRef"], plainKeys := false, apart := false, laid := [("github.com/evanw/esbuild/internal/ast.InvalidRef", laid_github_com_evanw_esbuild_internal_ast_InvalidRef)] }
def FnMaybeLowerSetBinOpNonMemberTargetIsRefusedSaid : Prop := fnMaybeLowerSetBinOpNonMemberTargetIsRefusedRow.holds Tryz.pinned (OpenSpec.ofChange fnMaybeLowerSetBinOpNonMemberTargetIsRefusedSpec)

/-- ITS FALSE NEIGHBOUR: 'it returns false'. Refute it at one input. -/
def fnMaybeLowerSetBinOpNonMemberTargetIsRefusedWrong : ChangeSpec := { name := "fnMaybeLowerSetBinOpNonMemberTargetIsRefused", vars := ["github.com/evanw/esbuild/internal/ast.InvalidRef"], fn := fun _ => fun
  | [d1, d2, d3, d4, d5, d6, d7, d8, g1] => { results := [.lit (.bool false)], args := [d1, d2, d3, d4, d5, d6, d7, d8], vars := [g1] }
  | _ => none }
def FnMaybeLowerSetBinOpNonMemberTargetIsRefusedWrongFalsely : Prop := fnMaybeLowerSetBinOpNonMemberTargetIsRefusedRow.holds Tryz.pinned (OpenSpec.ofChange fnMaybeLowerSetBinOpNonMemberTargetIsRefusedWrong)

/-- 'n011_42.FnMaybeLowerSetBinOpUnloweredMemberIsRefused': WHATEVER THE INPUT: true; the input reads as it did. -/
def fnMaybeLowerSetBinOpUnloweredMemberIsRefusedSpec : ChangeSpec := { name := "fnMaybeLowerSetBinOpUnloweredMemberIsRefused", vars := ["github.com/evanw/esbuild/internal/ast.InvalidRef"], fn := fun _ => fun
  | [d1, d2, d3, d4, d5, d6, d7, g1] => { results := [.lit (.bool true)], args := [d1, d2, d3, d4, d5, d6, d7], vars := [g1] }
  | _ => none }
def fnMaybeLowerSetBinOpUnloweredMemberIsRefusedRow : OpenClaim := { program := "ytkhmjppfogppoaagreatdoor", sum := "b5616029de4cb18d2a47dec9f027ee4b1ba9b24d6ba84c693ad923b466e6e9bc", func := "github.com/evanw/esbuild/n011_42.FnMaybeLowerSetBinOpUnloweredMemberIsRefused", spec := "fnMaybeLowerSetBinOpUnloweredMemberIsRefused", inPlace := ["internal/abi.NoEscape"], unfollowed := true, recurses := true, named := ["github.com/evanw/esbuild/internal/ast.InvalidRef"], plainKeys := false, apart := false, laid := [("github.com/evanw/esbuild/internal/ast.InvalidRef", laid_github_com_evanw_esbuild_internal_ast_InvalidRef)] }
def FnMaybeLowerSetBinOpUnloweredMemberIsRefusedSaid : Prop := fnMaybeLowerSetBinOpUnloweredMemberIsRefusedRow.holds Tryz.pinned (OpenSpec.ofChange fnMaybeLowerSetBinOpUnloweredMemberIsRefusedSpec)

/-- ITS FALSE NEIGHBOUR: 'it returns false'. Refute it at one input. -/
def fnMaybeLowerSetBinOpUnloweredMemberIsRefusedWrong : ChangeSpec := { name := "fnMaybeLowerSetBinOpUnloweredMemberIsRefused", vars := ["github.com/evanw/esbuild/internal/ast.InvalidRef"], fn := fun _ => fun
  | [d1, d2, d3, d4, d5, d6, d7, g1] => { results := [.lit (.bool false)], args := [d1, d2, d3, d4, d5, d6, d7], vars := [g1] }
  | _ => none }
def FnMaybeLowerSetBinOpUnloweredMemberIsRefusedWrongFalsely : Prop := fnMaybeLowerSetBinOpUnloweredMemberIsRefusedRow.holds Tryz.pinned (OpenSpec.ofChange fnMaybeLowerSetBinOpUnloweredMemberIsRefusedWrong)

/-- 'n011_212.FnSuperSetBinOpCaseTable': WHATEVER THE INPUT: true; the input reads as it did. -/
def fnSuperSetBinOpCaseTableSpec : ChangeSpec := { name := "fnSuperSetBinOpCaseTable", vars := ["github.com/evanw/esbuild/internal/ast.InvalidRef"], fn := fun _ => fun
  | [d1, d2, d3, d4, d5, d6, g1] => { results := [.lit (.bool true)], args := [d1, d2, d3, d4, d5, d6], vars := [g1] }
  | _ => none }
def fnSuperSetBinOpCaseTableRow : OpenClaim := { program := "ytkhmjppfogppoaagreatdoor", sum := "b5616029de4cb18d2a47dec9f027ee4b1ba9b24d6ba84c693ad923b466e6e9bc", func := "github.com/evanw/esbuild/n011_212.FnSuperSetBinOpCaseTable", spec := "fnSuperSetBinOpCaseTable", inPlace := ["internal/abi.NoEscape"], unfollowed := true, recurses := true, named := ["github.com/evanw/esbuild/internal/ast.InvalidRef"], plainKeys := false, apart := false, laid := [("github.com/evanw/esbuild/internal/ast.InvalidRef", laid_github_com_evanw_esbuild_internal_ast_InvalidRef)] }
def FnSuperSetBinOpCaseTableSaid : Prop := fnSuperSetBinOpCaseTableRow.holds Tryz.pinned (OpenSpec.ofChange fnSuperSetBinOpCaseTableSpec)

/-- ITS FALSE NEIGHBOUR: 'it returns false'. Refute it at one input. -/
def fnSuperSetBinOpCaseTableWrong : ChangeSpec := { name := "fnSuperSetBinOpCaseTable", vars := ["github.com/evanw/esbuild/internal/ast.InvalidRef"], fn := fun _ => fun
  | [d1, d2, d3, d4, d5, d6, g1] => { results := [.lit (.bool false)], args := [d1, d2, d3, d4, d5, d6], vars := [g1] }
  | _ => none }
def FnSuperSetBinOpCaseTableWrongFalsely : Prop := fnSuperSetBinOpCaseTableRow.holds Tryz.pinned (OpenSpec.ofChange fnSuperSetBinOpCaseTableWrong)

/- THE SECOND FORM. 'bulk': how many values and letters a reading holds, each counted each time it is reached (what is shared counts as often as it is met; a slice's spare places count too). A statement '..UptoSaid' is the law's where the arguments, and the package variables that the reading takes, are together of bulk at most 1048576: NARROWER than '..Said'. Prove '..Said' where nothing that the law and all that it calls make is longer than what came in: it says more and counts as full. Else prove '..UptoSaid'. A law counts once. -/
mutual
def uptoBulk {H : Type} : DataW H → Nat
  | .lit (.string bytes) => bytes.length + 1
  | .lit _ => 1
  | .nil => 1
  | .ptr d => uptoBulk d + 1
  | .slice elems spare => uptoBulkAll elems + uptoBulkAll spare + 1
  | .agg parts => uptoBulkAll parts + 1
  | .iface _ d => uptoBulk d + 1
  | .map entries => uptoBulkEntries entries + 1
  | .held _ => 1
def uptoBulkAll {H : Type} : List (DataW H) → Nat
  | [] => 0
  | d :: r => uptoBulk d + uptoBulkAll r
def uptoBulkEntries {H : Type} : List (Lit × DataW H) → Nat
  | [] => 0
  | x :: r => uptoBulkEntry x + uptoBulkEntries r
def uptoBulkEntry {H : Type} : Lit × DataW H → Nat
  | (.string bytes, d) => bytes.length + uptoBulk d + 1
  | (_, d) => uptoBulk d + 1
 end
def uptoSmall : (H : Type) → List (DataW H) → Bool := fun _ ds => decide (uptoBulkAll ds ≤ 1048576)
def OpenSpec.upto (s : _root_.Go.ChangeSpec) : _root_.Go.OpenSpec := { _root_.Go.OpenSpec.ofChange s with cond := some uptoSmall }

/-- 'n011_42.FnMaybeLowerSetBinOpNonMemberTargetIsRefused', WHERE WHAT IT READS IS OF BULK AT MOST 1048576: true; the input reads as it did. -/
def fnMaybeLowerSetBinOpNonMemberTargetIsRefusedUptoRow : OpenClaim := { program := "ytkhmjppfogppoaagreatdoor", sum := "b5616029de4cb18d2a47dec9f027ee4b1ba9b24d6ba84c693ad923b466e6e9bc", func := "github.com/evanw/esbuild/n011_42.FnMaybeLowerSetBinOpNonMemberTargetIsRefused", spec := "fnMaybeLowerSetBinOpNonMemberTargetIsRefused", inPlace := ["internal/abi.NoEscape"], unfollowed := true, recurses := true, named := ["github.com/evanw/esbuild/internal/ast.InvalidRef"], plainKeys := false, apart := false, laid := [("github.com/evanw/esbuild/internal/ast.InvalidRef", laid_github_com_evanw_esbuild_internal_ast_InvalidRef)], narrowed := true }
def FnMaybeLowerSetBinOpNonMemberTargetIsRefusedUptoSaid : Prop := fnMaybeLowerSetBinOpNonMemberTargetIsRefusedUptoRow.holds Tryz.pinned (OpenSpec.upto fnMaybeLowerSetBinOpNonMemberTargetIsRefusedSpec)

/-- 'n011_42.FnMaybeLowerSetBinOpUnloweredMemberIsRefused', WHERE WHAT IT READS IS OF BULK AT MOST 1048576: true; the input reads as it did. -/
def fnMaybeLowerSetBinOpUnloweredMemberIsRefusedUptoRow : OpenClaim := { program := "ytkhmjppfogppoaagreatdoor", sum := "b5616029de4cb18d2a47dec9f027ee4b1ba9b24d6ba84c693ad923b466e6e9bc", func := "github.com/evanw/esbuild/n011_42.FnMaybeLowerSetBinOpUnloweredMemberIsRefused", spec := "fnMaybeLowerSetBinOpUnloweredMemberIsRefused", inPlace := ["internal/abi.NoEscape"], unfollowed := true, recurses := true, named := ["github.com/evanw/esbuild/internal/ast.InvalidRef"], plainKeys := false, apart := false, laid := [("github.com/evanw/esbuild/internal/ast.InvalidRef", laid_github_com_evanw_esbuild_internal_ast_InvalidRef)], narrowed := true }
def FnMaybeLowerSetBinOpUnloweredMemberIsRefusedUptoSaid : Prop := fnMaybeLowerSetBinOpUnloweredMemberIsRefusedUptoRow.holds Tryz.pinned (OpenSpec.upto fnMaybeLowerSetBinOpUnloweredMemberIsRefusedSpec)

/-- 'n011_212.FnSuperSetBinOpCaseTable', WHERE WHAT IT READS IS OF BULK AT MOST 1048576: true; the input reads as it did. -/
def fnSuperSetBinOpCaseTableUptoRow : OpenClaim := { program := "ytkhmjppfogppoaagreatdoor", sum := "b5616029de4cb18d2a47dec9f027ee4b1ba9b24d6ba84c693ad923b466e6e9bc", func := "github.com/evanw/esbuild/n011_212.FnSuperSetBinOpCaseTable", spec := "fnSuperSetBinOpCaseTable", inPlace := ["internal/abi.NoEscape"], unfollowed := true, recurses := true, named := ["github.com/evanw/esbuild/internal/ast.InvalidRef"], plainKeys := false, apart := false, laid := [("github.com/evanw/esbuild/internal/ast.InvalidRef", laid_github_com_evanw_esbuild_internal_ast_InvalidRef)], narrowed := true }
def FnSuperSetBinOpCaseTableUptoSaid : Prop := fnSuperSetBinOpCaseTableUptoRow.holds Tryz.pinned (OpenSpec.upto fnSuperSetBinOpCaseTableSpec)

end Rows
end Go.Proofs.YtkhmjppfogppoaaGreatDoor
