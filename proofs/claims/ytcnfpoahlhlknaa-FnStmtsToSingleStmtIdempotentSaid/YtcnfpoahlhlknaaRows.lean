/-
  No cell of these rows narrows 'for every input' (looked for: loops, veiled, ifaces, maps, wideKeys, modest, calm, conditions, laid).
  DERIVED. THE GIVEN ROWS OF THIS SEAT. 3 by the template 'for every input the law returns true; each argument reads behind the call as it read before'; 0 by the template 'total and deterministic' (their statements: YtcnfpoahlhlknaaTotals.lean).
  GIVEN WITH THE SEED: the statements are not yours to turn. If you find one false, say at which input.
  Laid BY PROGRAM, IN A SANDBOX (cutbox-rows.mjs): the forced cells as the released guide's own fill.sh prints them over the translation 9b4082fe89cc3e0c… (all of the seat's roots in one cut). By AI agents, Wed Nov 11 2026. No macro, syntax, notation, axiom, sorry.
-/
import Derived.Test.YtcnfpoahlhlknaaChecked
import GoSem.Claim
import GoSem.ClaimJoined
import GoSem.ClaimMapViews
import Derived.JoinedTies
import Derived.KernelRfl
namespace Go.Proofs.Ytcnfpoahlhlknaa
/- THE CELL 'sum', in the pinned program and in every row, IS THE sha256 OF THE DUMP (.gsa) THAT YtcnfpoahlhlknaaProg.lean LOADS. Nothing in Lean hashes anything: it is a label: what it is worth is what the hold of that sum in a sandbox is worth. -/
noncomputable def Try.pinned : Pinned := { name := "ytcnfpoahlhlknaa", sum := "9b4082fe89cc3e0cb00824a643aacfbc76456ef96f7a1639106a0d27cbe16a32", checked := Try.checked }
namespace Rows
def none {H : Type} : Left H := { results := [], args := [] }

/-- 'n011_76.FnStmtCaresAboutScopeDecidesUnwrapping': WHATEVER THE INPUT: true; the input reads as it did. -/
def fnStmtCaresAboutScopeDecidesUnwrappingSpec : ChangeSpec := { name := "fnStmtCaresAboutScopeDecidesUnwrapping", fn := fun _ => fun
  | [d1, d2, d3] => { results := [.lit (.bool true)], args := [d1, d2, d3] }
  | _ => none }
def fnStmtCaresAboutScopeDecidesUnwrappingRow : OpenClaim := { program := "ytcnfpoahlhlknaa", sum := "9b4082fe89cc3e0cb00824a643aacfbc76456ef96f7a1639106a0d27cbe16a32", func := "github.com/evanw/esbuild/n011_76.FnStmtCaresAboutScopeDecidesUnwrapping", spec := "fnStmtCaresAboutScopeDecidesUnwrapping", plainKeys := false, apart := false }
def FnStmtCaresAboutScopeDecidesUnwrappingSaid : Prop := fnStmtCaresAboutScopeDecidesUnwrappingRow.holds Try.pinned (OpenSpec.ofChange fnStmtCaresAboutScopeDecidesUnwrappingSpec)

/-- ITS FALSE NEIGHBOUR: 'it returns false'. Refute it at one input. -/
def fnStmtCaresAboutScopeDecidesUnwrappingWrong : ChangeSpec := { name := "fnStmtCaresAboutScopeDecidesUnwrapping", fn := fun _ => fun
  | [d1, d2, d3] => { results := [.lit (.bool false)], args := [d1, d2, d3] }
  | _ => none }
def FnStmtCaresAboutScopeDecidesUnwrappingWrongFalsely : Prop := fnStmtCaresAboutScopeDecidesUnwrappingRow.holds Try.pinned (OpenSpec.ofChange fnStmtCaresAboutScopeDecidesUnwrappingWrong)

/-- 'n011_72.FnStmtsToSingleStmtIdempotent': WHATEVER THE INPUT: true; the input reads as it did. -/
def fnStmtsToSingleStmtIdempotentSpec : ChangeSpec := { name := "fnStmtsToSingleStmtIdempotent", fn := fun _ => fun
  | [d1, d2, d3, d4, d5] => { results := [.lit (.bool true)], args := [d1, d2, d3, d4, d5] }
  | _ => none }
def fnStmtsToSingleStmtIdempotentRow : OpenClaim := { program := "ytcnfpoahlhlknaa", sum := "9b4082fe89cc3e0cb00824a643aacfbc76456ef96f7a1639106a0d27cbe16a32", func := "github.com/evanw/esbuild/n011_72.FnStmtsToSingleStmtIdempotent", spec := "fnStmtsToSingleStmtIdempotent", plainKeys := false, apart := false }
def FnStmtsToSingleStmtIdempotentSaid : Prop := fnStmtsToSingleStmtIdempotentRow.holds Try.pinned (OpenSpec.ofChange fnStmtsToSingleStmtIdempotentSpec)

/-- ITS FALSE NEIGHBOUR: 'it returns false'. Refute it at one input. -/
def fnStmtsToSingleStmtIdempotentWrong : ChangeSpec := { name := "fnStmtsToSingleStmtIdempotent", fn := fun _ => fun
  | [d1, d2, d3, d4, d5] => { results := [.lit (.bool false)], args := [d1, d2, d3, d4, d5] }
  | _ => none }
def FnStmtsToSingleStmtIdempotentWrongFalsely : Prop := fnStmtsToSingleStmtIdempotentRow.holds Try.pinned (OpenSpec.ofChange fnStmtsToSingleStmtIdempotentWrong)

/-- 'n011_223.FnWrapInlinedEnumRefusalSurvivesExtension': WHATEVER THE INPUT: true; the input reads as it did. -/
def fnWrapInlinedEnumRefusalSurvivesExtensionSpec : ChangeSpec := { name := "fnWrapInlinedEnumRefusalSurvivesExtension", fn := fun _ => fun
  | [d1, d2, d3, d4] => { results := [.lit (.bool true)], args := [d1, d2, d3, d4] }
  | _ => none }
def fnWrapInlinedEnumRefusalSurvivesExtensionRow : OpenClaim := { program := "ytcnfpoahlhlknaa", sum := "9b4082fe89cc3e0cb00824a643aacfbc76456ef96f7a1639106a0d27cbe16a32", func := "github.com/evanw/esbuild/n011_223.FnWrapInlinedEnumRefusalSurvivesExtension", spec := "fnWrapInlinedEnumRefusalSurvivesExtension", plainKeys := false, apart := false }
def FnWrapInlinedEnumRefusalSurvivesExtensionSaid : Prop := fnWrapInlinedEnumRefusalSurvivesExtensionRow.holds Try.pinned (OpenSpec.ofChange fnWrapInlinedEnumRefusalSurvivesExtensionSpec)

/-- ITS FALSE NEIGHBOUR: 'it returns false'. Refute it at one input. -/
def fnWrapInlinedEnumRefusalSurvivesExtensionWrong : ChangeSpec := { name := "fnWrapInlinedEnumRefusalSurvivesExtension", fn := fun _ => fun
  | [d1, d2, d3, d4] => { results := [.lit (.bool false)], args := [d1, d2, d3, d4] }
  | _ => none }
def FnWrapInlinedEnumRefusalSurvivesExtensionWrongFalsely : Prop := fnWrapInlinedEnumRefusalSurvivesExtensionRow.holds Try.pinned (OpenSpec.ofChange fnWrapInlinedEnumRefusalSurvivesExtensionWrong)

/- THE SECOND FORM. 'bulk': how many values and letters a reading holds, each counted each time it is reached (what is shared counts as often as it is met; a slice's spare places count too). A statement '..UptoSaid' is the law's where the arguments, and the package variables that the reading takes, are together of bulk at most 1048576: NARROWER than '..Said'. Prove '..Said' where nothing that the law and all that it calls make is longer than what came in: it says more and counts as full. Else prove '..UptoSaid'. A law counts once. -/
mutual
def uptoBulk {H : Type} : DataW H → Nat
  | .lit (.string bytes) => bytes.length + 1
  | .lit _ => 1
  | .nil => 1
  | .ptr d => uptoBulk d + 1
  | .slice elems spare => uptoBulkAll elems + uptoBulkAll spare + 1
  | .agg parts => uptoBulkAll parts + 1
  | .iface _ d => uptoBulk d + 1
  | .map entries => uptoBulkEntries entries + 1
  | .held _ => 1
def uptoBulkAll {H : Type} : List (DataW H) → Nat
  | [] => 0
  | d :: r => uptoBulk d + uptoBulkAll r
def uptoBulkEntries {H : Type} : List (Lit × DataW H) → Nat
  | [] => 0
  | x :: r => uptoBulkEntry x + uptoBulkEntries r
def uptoBulkEntry {H : Type} : Lit × DataW H → Nat
  | (.string bytes, d) => bytes.length + uptoBulk d + 1
  | (_, d) => uptoBulk d + 1
 end
def uptoSmall : (H : Type) → List (DataW H) → Bool := fun _ ds => decide (uptoBulkAll ds ≤ 1048576)
def OpenSpec.upto (s : _root_.Go.ChangeSpec) : _root_.Go.OpenSpec := { _root_.Go.OpenSpec.ofChange s with cond := some uptoSmall }

/-- 'n011_76.FnStmtCaresAboutScopeDecidesUnwrapping', WHERE WHAT IT READS IS OF BULK AT MOST 1048576: true; the input reads as it did. -/
def fnStmtCaresAboutScopeDecidesUnwrappingUptoRow : OpenClaim := { program := "ytcnfpoahlhlknaa", sum := "9b4082fe89cc3e0cb00824a643aacfbc76456ef96f7a1639106a0d27cbe16a32", func := "github.com/evanw/esbuild/n011_76.FnStmtCaresAboutScopeDecidesUnwrapping", spec := "fnStmtCaresAboutScopeDecidesUnwrapping", plainKeys := false, apart := false, narrowed := true }
def FnStmtCaresAboutScopeDecidesUnwrappingUptoSaid : Prop := fnStmtCaresAboutScopeDecidesUnwrappingUptoRow.holds Try.pinned (OpenSpec.upto fnStmtCaresAboutScopeDecidesUnwrappingSpec)

/-- 'n011_72.FnStmtsToSingleStmtIdempotent', WHERE WHAT IT READS IS OF BULK AT MOST 1048576: true; the input reads as it did. -/
def fnStmtsToSingleStmtIdempotentUptoRow : OpenClaim := { program := "ytcnfpoahlhlknaa", sum := "9b4082fe89cc3e0cb00824a643aacfbc76456ef96f7a1639106a0d27cbe16a32", func := "github.com/evanw/esbuild/n011_72.FnStmtsToSingleStmtIdempotent", spec := "fnStmtsToSingleStmtIdempotent", plainKeys := false, apart := false, narrowed := true }
def FnStmtsToSingleStmtIdempotentUptoSaid : Prop := fnStmtsToSingleStmtIdempotentUptoRow.holds Try.pinned (OpenSpec.upto fnStmtsToSingleStmtIdempotentSpec)

/-- 'n011_223.FnWrapInlinedEnumRefusalSurvivesExtension', WHERE WHAT IT READS IS OF BULK AT MOST 1048576: true; the input reads as it did. -/
def fnWrapInlinedEnumRefusalSurvivesExtensionUptoRow : OpenClaim := { program := "ytcnfpoahlhlknaa", sum := "9b4082fe89cc3e0cb00824a643aacfbc76456ef96f7a1639106a0d27cbe16a32", func := "github.com/evanw/esbuild/n011_223.FnWrapInlinedEnumRefusalSurvivesExtension", spec := "fnWrapInlinedEnumRefusalSurvivesExtension", plainKeys := false, apart := false, narrowed := true }
def FnWrapInlinedEnumRefusalSurvivesExtensionUptoSaid : Prop := fnWrapInlinedEnumRefusalSurvivesExtensionUptoRow.holds Try.pinned (OpenSpec.upto fnWrapInlinedEnumRefusalSurvivesExtensionSpec)

end Rows
end Go.Proofs.Ytcnfpoahlhlknaa
