/-
  DERIVED. GIVEN WITH THE SEED: THE CARDS: each row of YtkmojepgbbdeiaaDoorRows.lean that lists a variable, with what it lists TIED to the program's text (the seventh form; the later family's looks); each row that meets fmt, with fmt's text TOLD by the authors' own Lean function (tested against real Go, not proved from fmt's source: count such statements apart). THE CARD IS WHAT COUNTS. Prove the row's statement (the work); the ties are given (YtkmojepgbbdeiaaDoorTie.lean); close each card by the builder's one call (the guide's Derived/Test/ToyasCard.lean, 'card_holds'). Laid BY PROGRAM, IN A SANDBOX (cutbox-door.mjs). By AI agents, Wed Nov 11 2026. No macro, syntax, notation, axiom, sorry.
-/
import Derived.Test.YtkmojepgbbdeiaaDoorRows
import GoSem.ClaimSeven
namespace Go.Proofs.YtkmojepgbbdeiaaDoor
namespace Rows

/-- THE TIED CARD OF 'n011_222.FnTopLevelTempRefScript'. -/
def fnTopLevelTempRefScriptCard : Claim7 := { stood := { row := fnTopLevelTempRefScriptRow, standIns := [], harness := (true, "32ead0da337e5b2182ffa0ec417819b5bdda95f61b813f288488185473985f3c"), looks := false }, kinds := [], alts := [], laidByText := true, laidKinds := [.data], laidTests := true, laidLooks := .later }
def FnTopLevelTempRefScriptCardSaid : Prop := Claim7.holds Tryd.pinned (.plain (OpenSpec.ofChange fnTopLevelTempRefScriptSpec)) fnTopLevelTempRefScriptCard

/-- THE TIED CARD OF 'n011_222.FnTempNamesAgreeAndRefsStayDistinct'. -/
def fnTempNamesAgreeAndRefsStayDistinctCard : Claim7 := { stood := { row := fnTempNamesAgreeAndRefsStayDistinctRow, standIns := [], harness := (true, "32ead0da337e5b2182ffa0ec417819b5bdda95f61b813f288488185473985f3c"), looks := false }, kinds := [], alts := [], laidByText := true, laidKinds := [.data], laidTests := true, laidLooks := .later }
def FnTempNamesAgreeAndRefsStayDistinctCardSaid : Prop := Claim7.holds Tryd.pinned (.plain (OpenSpec.ofChange fnTempNamesAgreeAndRefsStayDistinctSpec)) fnTempNamesAgreeAndRefsStayDistinctCard

/-- THE TIED CARD OF 'n011_222.FnGenerateTempRefCaseTable'. -/
def fnGenerateTempRefCaseTableCard : Claim7 := { stood := { row := fnGenerateTempRefCaseTableRow, standIns := [], harness := (true, "32ead0da337e5b2182ffa0ec417819b5bdda95f61b813f288488185473985f3c"), looks := false }, kinds := [], alts := [], laidByText := true, laidKinds := [.data], laidTests := true, laidLooks := .later }
def FnGenerateTempRefCaseTableCardSaid : Prop := Claim7.holds Tryd.pinned (.plain (OpenSpec.ofChange fnGenerateTempRefCaseTableSpec)) fnGenerateTempRefCaseTableCard

/-- THE SECOND FORM's CARD OF 'n011_222.FnTopLevelTempRefScript'. -/
def fnTopLevelTempRefScriptUptoCard : Claim7 := { stood := { row := fnTopLevelTempRefScriptUptoRow, standIns := [], harness := (true, "32ead0da337e5b2182ffa0ec417819b5bdda95f61b813f288488185473985f3c"), looks := false }, kinds := [], alts := [], laidByText := true, laidKinds := [.data], laidTests := true, laidLooks := .later }
def FnTopLevelTempRefScriptUptoCardSaid : Prop := Claim7.holds Tryd.pinned (.plain (OpenSpec.upto fnTopLevelTempRefScriptSpec)) fnTopLevelTempRefScriptUptoCard

/-- THE SECOND FORM's CARD OF 'n011_222.FnTempNamesAgreeAndRefsStayDistinct'. -/
def fnTempNamesAgreeAndRefsStayDistinctUptoCard : Claim7 := { stood := { row := fnTempNamesAgreeAndRefsStayDistinctUptoRow, standIns := [], harness := (true, "32ead0da337e5b2182ffa0ec417819b5bdda95f61b813f288488185473985f3c"), looks := false }, kinds := [], alts := [], laidByText := true, laidKinds := [.data], laidTests := true, laidLooks := .later }
def FnTempNamesAgreeAndRefsStayDistinctUptoCardSaid : Prop := Claim7.holds Tryd.pinned (.plain (OpenSpec.upto fnTempNamesAgreeAndRefsStayDistinctSpec)) fnTempNamesAgreeAndRefsStayDistinctUptoCard

/-- THE SECOND FORM's CARD OF 'n011_222.FnGenerateTempRefCaseTable'. -/
def fnGenerateTempRefCaseTableUptoCard : Claim7 := { stood := { row := fnGenerateTempRefCaseTableUptoRow, standIns := [], harness := (true, "32ead0da337e5b2182ffa0ec417819b5bdda95f61b813f288488185473985f3c"), looks := false }, kinds := [], alts := [], laidByText := true, laidKinds := [.data], laidTests := true, laidLooks := .later }
def FnGenerateTempRefCaseTableUptoCardSaid : Prop := Claim7.holds Tryd.pinned (.plain (OpenSpec.upto fnGenerateTempRefCaseTableSpec)) fnGenerateTempRefCaseTableUptoCard
end Rows
end Go.Proofs.YtkmojepgbbdeiaaDoor
