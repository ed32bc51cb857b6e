/-
  DERIVED. GIVEN WITH THE SEED: THE CARDS: each row of YthgpfmihbmhlhaaDoorRows.lean that lists a variable, with what it lists TIED to the program's text (the seventh form; the later family's looks); each row that meets fmt, with fmt's text TOLD by the authors' own Lean function (tested against real Go, not proved from fmt's source: count such statements apart). THE CARD IS WHAT COUNTS. Prove the row's statement (the work); the ties are given (YthgpfmihbmhlhaaDoorTie.lean); close each card by the builder's one call (the guide's Derived/Test/ToyasCard.lean, 'card_holds'). Laid BY PROGRAM, IN A SANDBOX (cutbox-door.mjs). By AI agents, Wed Nov 11 2026. No macro, syntax, notation, axiom, sorry.
-/
import Derived.Test.YthgpfmihbmhlhaaDoorRows
import GoSem.ClaimSeven
namespace Go.Proofs.YthgpfmihbmhlhaaDoor
namespace Rows

/-- THE TIED CARD OF 'n011_56.FnContainsClosingScriptTagMatchesModel'. -/
def fnContainsClosingScriptTagMatchesModelCard : Claim7 := { stood := { row := fnContainsClosingScriptTagMatchesModelRow, standIns := [], harness := (true, "27eff5a51a2662d46c1a4637e07e8eab79829344dffc68047159925d449e0572"), looks := false }, kinds := [], alts := [], laidByText := true, laidKinds := [.data, .data, .data, .pinned, .pinned], laidTests := true, laidLooks := .later }
def FnContainsClosingScriptTagMatchesModelCardSaid : Prop := Claim7.holds Tryd.pinned (.plain (OpenSpec.ofChange fnContainsClosingScriptTagMatchesModelSpec)) fnContainsClosingScriptTagMatchesModelCard

/-- THE TIED CARD OF 'n011_56.FnContainsClosingScriptTagSurvivesSurroundingText'. -/
def fnContainsClosingScriptTagSurvivesSurroundingTextCard : Claim7 := { stood := { row := fnContainsClosingScriptTagSurvivesSurroundingTextRow, standIns := [], harness := (true, "27eff5a51a2662d46c1a4637e07e8eab79829344dffc68047159925d449e0572"), looks := false }, kinds := [], alts := [], laidByText := true, laidKinds := [.data, .data, .data, .pinned, .pinned], laidTests := true, laidLooks := .later }
def FnContainsClosingScriptTagSurvivesSurroundingTextCardSaid : Prop := Claim7.holds Tryd.pinned (.plain (OpenSpec.ofChange fnContainsClosingScriptTagSurvivesSurroundingTextSpec)) fnContainsClosingScriptTagSurvivesSurroundingTextCard

/-- THE SECOND FORM's CARD OF 'n011_56.FnContainsClosingScriptTagMatchesModel'. -/
def fnContainsClosingScriptTagMatchesModelUptoCard : Claim7 := { stood := { row := fnContainsClosingScriptTagMatchesModelUptoRow, standIns := [], harness := (true, "27eff5a51a2662d46c1a4637e07e8eab79829344dffc68047159925d449e0572"), looks := false }, kinds := [], alts := [], laidByText := true, laidKinds := [.data, .data, .data, .pinned, .pinned], laidTests := true, laidLooks := .later }
def FnContainsClosingScriptTagMatchesModelUptoCardSaid : Prop := Claim7.holds Tryd.pinned (.plain (OpenSpec.upto fnContainsClosingScriptTagMatchesModelSpec)) fnContainsClosingScriptTagMatchesModelUptoCard

/-- THE SECOND FORM's CARD OF 'n011_56.FnContainsClosingScriptTagSurvivesSurroundingText'. -/
def fnContainsClosingScriptTagSurvivesSurroundingTextUptoCard : Claim7 := { stood := { row := fnContainsClosingScriptTagSurvivesSurroundingTextUptoRow, standIns := [], harness := (true, "27eff5a51a2662d46c1a4637e07e8eab79829344dffc68047159925d449e0572"), looks := false }, kinds := [], alts := [], laidByText := true, laidKinds := [.data, .data, .data, .pinned, .pinned], laidTests := true, laidLooks := .later }
def FnContainsClosingScriptTagSurvivesSurroundingTextUptoCardSaid : Prop := Claim7.holds Tryd.pinned (.plain (OpenSpec.upto fnContainsClosingScriptTagSurvivesSurroundingTextSpec)) fnContainsClosingScriptTagSurvivesSurroundingTextUptoCard
end Rows
end Go.Proofs.YthgpfmihbmhlhaaDoor
