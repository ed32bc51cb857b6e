/-
  DERIVED. GIVEN WITH THE SEED: THE CARDS: each row of YtikopplofkemlaaDoorRows.lean that lists a variable, with what it lists TIED to the program's text (the seventh form; the later family's looks); each row that meets fmt, with fmt's text TOLD by the authors' own Lean function (tested against real Go, not proved from fmt's source: count such statements apart). THE CARD IS WHAT COUNTS. Prove the row's statement (the work); the ties are given (YtikopplofkemlaaDoorTie.lean); close each card by the builder's one call (the guide's Derived/Test/ToyasCard.lean, 'card_holds'). Laid BY PROGRAM, IN A SANDBOX (cutbox-door.mjs). By AI agents, Wed Nov 11 2026. No macro, syntax, notation, axiom, sorry.
-/
import Derived.Test.YtikopplofkemlaaDoorRows
import GoSem.ClaimSeven
namespace Go.Proofs.YtikopplofkemlaaDoor
namespace Rows

/-- THE TIED CARD OF 'n011_263.FnFinalizeMergesExports'. -/
def fnFinalizeMergesExportsCard : Claim7 := { stood := { row := fnFinalizeMergesExportsRow, standIns := [], harness := (true, "be0079a3d67085652ee5f16f5e8c27a21af98368ce3addd4b9f781f1bdde1816"), looks := true }, kinds := [], alts := [], laidByText := true, laidKinds := [.data], laidTests := true, laidLooks := .later }
def FnFinalizeMergesExportsCardSaid : Prop := Claim7.holds Tryd.pinned (.plain (OpenSpec.ofChange fnFinalizeMergesExportsSpec)) fnFinalizeMergesExportsCard

/-- THE TIED CARD OF 'n011_263.FnForOfDeclaresTempThenUsingVars'. -/
def fnForOfDeclaresTempThenUsingVarsCard : Claim7 := { stood := { row := fnForOfDeclaresTempThenUsingVarsRow, standIns := [], harness := (true, "be0079a3d67085652ee5f16f5e8c27a21af98368ce3addd4b9f781f1bdde1816"), looks := true }, kinds := [], alts := [], laidByText := true, laidKinds := [.data], laidTests := true, laidLooks := .later }
def FnForOfDeclaresTempThenUsingVarsCardSaid : Prop := Claim7.holds Tryd.pinned (.plain (OpenSpec.ofChange fnForOfDeclaresTempThenUsingVarsSpec)) fnForOfDeclaresTempThenUsingVarsCard

/-- THE TIED CARD OF 'n011_263.FnForOfWrapsBodyInUsingBlock'. -/
def fnForOfWrapsBodyInUsingBlockCard : Claim7 := { stood := { row := fnForOfWrapsBodyInUsingBlockRow, standIns := [], harness := (true, "be0079a3d67085652ee5f16f5e8c27a21af98368ce3addd4b9f781f1bdde1816"), looks := true }, kinds := [], alts := [], laidByText := true, laidKinds := [.data], laidTests := true, laidLooks := .later }
def FnForOfWrapsBodyInUsingBlockCardSaid : Prop := Claim7.holds Tryd.pinned (.plain (OpenSpec.ofChange fnForOfWrapsBodyInUsingBlockSpec)) fnForOfWrapsBodyInUsingBlockCard

/-- THE TIED CARD OF 'n011_263.FnFinalizePartitions'. -/
def fnFinalizePartitionsCard : Claim7 := { stood := { row := fnFinalizePartitionsRow, standIns := [], harness := (true, "be0079a3d67085652ee5f16f5e8c27a21af98368ce3addd4b9f781f1bdde1816"), looks := true }, kinds := [], alts := [], laidByText := true, laidKinds := [.data], laidTests := true, laidLooks := .later }
def FnFinalizePartitionsCardSaid : Prop := Claim7.holds Tryd.pinned (.plain (OpenSpec.ofChange fnFinalizePartitionsSpec)) fnFinalizePartitionsCard

/-- THE SECOND FORM's CARD OF 'n011_263.FnFinalizeMergesExports'. -/
def fnFinalizeMergesExportsUptoCard : Claim7 := { stood := { row := fnFinalizeMergesExportsUptoRow, standIns := [], harness := (true, "be0079a3d67085652ee5f16f5e8c27a21af98368ce3addd4b9f781f1bdde1816"), looks := true }, kinds := [], alts := [], laidByText := true, laidKinds := [.data], laidTests := true, laidLooks := .later }
def FnFinalizeMergesExportsUptoCardSaid : Prop := Claim7.holds Tryd.pinned (.plain (OpenSpec.upto fnFinalizeMergesExportsSpec)) fnFinalizeMergesExportsUptoCard

/-- THE SECOND FORM's CARD OF 'n011_263.FnForOfDeclaresTempThenUsingVars'. -/
def fnForOfDeclaresTempThenUsingVarsUptoCard : Claim7 := { stood := { row := fnForOfDeclaresTempThenUsingVarsUptoRow, standIns := [], harness := (true, "be0079a3d67085652ee5f16f5e8c27a21af98368ce3addd4b9f781f1bdde1816"), looks := true }, kinds := [], alts := [], laidByText := true, laidKinds := [.data], laidTests := true, laidLooks := .later }
def FnForOfDeclaresTempThenUsingVarsUptoCardSaid : Prop := Claim7.holds Tryd.pinned (.plain (OpenSpec.upto fnForOfDeclaresTempThenUsingVarsSpec)) fnForOfDeclaresTempThenUsingVarsUptoCard

/-- THE SECOND FORM's CARD OF 'n011_263.FnForOfWrapsBodyInUsingBlock'. -/
def fnForOfWrapsBodyInUsingBlockUptoCard : Claim7 := { stood := { row := fnForOfWrapsBodyInUsingBlockUptoRow, standIns := [], harness := (true, "be0079a3d67085652ee5f16f5e8c27a21af98368ce3addd4b9f781f1bdde1816"), looks := true }, kinds := [], alts := [], laidByText := true, laidKinds := [.data], laidTests := true, laidLooks := .later }
def FnForOfWrapsBodyInUsingBlockUptoCardSaid : Prop := Claim7.holds Tryd.pinned (.plain (OpenSpec.upto fnForOfWrapsBodyInUsingBlockSpec)) fnForOfWrapsBodyInUsingBlockUptoCard

/-- THE SECOND FORM's CARD OF 'n011_263.FnFinalizePartitions'. -/
def fnFinalizePartitionsUptoCard : Claim7 := { stood := { row := fnFinalizePartitionsUptoRow, standIns := [], harness := (true, "be0079a3d67085652ee5f16f5e8c27a21af98368ce3addd4b9f781f1bdde1816"), looks := true }, kinds := [], alts := [], laidByText := true, laidKinds := [.data], laidTests := true, laidLooks := .later }
def FnFinalizePartitionsUptoCardSaid : Prop := Claim7.holds Tryd.pinned (.plain (OpenSpec.upto fnFinalizePartitionsSpec)) fnFinalizePartitionsUptoCard
end Rows
end Go.Proofs.YtikopplofkemlaaDoor
