/- The closed facts of the row of FnGenerateTempRefCaseTable, one by one. No condition. -/
import Derived.Test.YtkmojepgbbdeiaaDoorCards
import Derived.WalkKit
import Derived.ProofKit
import Derived.JoinedCond
namespace Go.Proofs.YtkmojepgbbdeiaaDoor.fnGenerateTempRefCaseTable
theorem andT {a b : Bool} (h : a = true) (k : b = true) : (a && b) = true := by rw [h, k]; rfl
theorem k0 : (Rows.fnGenerateTempRefCaseTableRow.wf (OpenSpec.ofChange (OpenSpec.ofChange Rows.fnGenerateTempRefCaseTableSpec).bare)) = true := by kernel_rfl
theorem k1 : (laidOutB Tryd.prog) = true := by kernel_rfl
theorem k2 : (mapsRowed Tryd.prog) = true := by kernel_rfl
theorem k3 : (Tryd.f5.params.all (Tryd.prog.readableRec ·)) = true := by kernel_rfl
theorem k4 : (namedTie Tryd.prog Rows.fnGenerateTempRefCaseTableRow.named (OpenSpec.ofChange Rows.fnGenerateTempRefCaseTableSpec).bare.vars) = true := by kernel_rfl
theorem k5 : ((Rows.fnGenerateTempRefCaseTableRow.stops == [])) = true := by kernel_rfl
theorem k6 : ((Tryd.prog.stops == [])) = true := by kernel_rfl
theorem k7 : ((Rows.fnGenerateTempRefCaseTableRow.knobs == [])) = true := by kernel_rfl
theorem k8 : ((Tryd.prog.stopKnobs == [])) = true := by kernel_rfl
theorem k9 : ((Rows.fnGenerateTempRefCaseTableRow.inPlace == Tryd.prog.inPlace 5)) = true := by kernel_rfl
theorem k10 : ((Rows.fnGenerateTempRefCaseTableRow.unfollowed == Tryd.prog.unfollowed 5)) = true := by kernel_rfl
theorem k11 : ((Rows.fnGenerateTempRefCaseTableRow.recurses == Tryd.prog.recurses 5)) = true := by kernel_rfl
theorem k12 : ((Rows.fnGenerateTempRefCaseTableRow.named == Tryd.prog.varsNamed 5)) = true := by kernel_rfl
theorem k13 : ((Rows.fnGenerateTempRefCaseTableRow.maps == (Tryd.f5.params.toList ++ (OpenSpec.ofChange Rows.fnGenerateTempRefCaseTableSpec).bare.plain.varTypes Tryd.prog).any (Tryd.prog.mapsRec ·))) = true := by kernel_rfl
theorem k14 : ((Rows.fnGenerateTempRefCaseTableRow.ifaces == (Tryd.f5.params.toList ++ (OpenSpec.ofChange Rows.fnGenerateTempRefCaseTableSpec).bare.plain.varTypes Tryd.prog).any (Tryd.prog.ifacesRec ·))) = true := by kernel_rfl
theorem k15 : ((Rows.fnGenerateTempRefCaseTableRow.mapsOut == Tryd.prog.mapsAmong Tryd.f5.resultTypes.toList)) = true := by kernel_rfl
theorem k16 : ((Rows.fnGenerateTempRefCaseTableRow.loops == (Tryd.f5.params.toList ++ (OpenSpec.ofChange Rows.fnGenerateTempRefCaseTableSpec).bare.plain.varTypes Tryd.prog).any (Tryd.prog.loopsFrom ·))) = true := by kernel_rfl
theorem k17 : ((Rows.fnGenerateTempRefCaseTableRow.wideKeys == (Tryd.f5.params.toList ++ (OpenSpec.ofChange Rows.fnGenerateTempRefCaseTableSpec).bare.plain.varTypes Tryd.prog ++ Tryd.f5.resultTypes.toList).any (Tryd.prog.wideKeysFrom ·))) = true := by kernel_rfl
theorem k18 : ((OpenSpec.ofChange Rows.fnGenerateTempRefCaseTableSpec).bare.vars.all (Tryd.prog.varReadable ·)) = true := by kernel_rfl
theorem k19 : (Tryd.f5.resultTypes.all (fun t => Tryd.prog.readableRec t && decide (t < Tryd.prog.types.size))) = true := by kernel_rfl
theorem k20 : ((Rows.fnGenerateTempRefCaseTableRow.ifacesOut == Tryd.f5.resultTypes.toList.any (Tryd.prog.ifacesRec ·))) = true := by kernel_rfl
theorem k21 : ((Rows.fnGenerateTempRefCaseTableRow.loopsOut == Tryd.f5.resultTypes.toList.any (Tryd.prog.loopsFrom ·))) = true := by kernel_rfl
theorem k22 : ((Rows.fnGenerateTempRefCaseTableRow.plainKeys == Tryd.prog.plainKeys)) = true := by kernel_rfl
theorem k23 : (Rows.fnGenerateTempRefCaseTableRow.shortTexts.isNone) = true := by kernel_rfl
theorem k24 : (Tryd.prog.stopsHeard) = true := by kernel_rfl
theorem k25 : (Tryd.prog.mayEnter) = true := by kernel_rfl
theorem k26 : ((Rows.fnGenerateTempRefCaseTableRow.lifted == Tryd.prog.liftsFinal)) = true := by kernel_rfl
theorem k27 : ((Tryd.prog.make == some Rows.fnGenerateTempRefCaseTableRow.make)) = true := by kernel_rfl
theorem k28 : ((Rows.fnGenerateTempRefCaseTableRow.kinds == (if Rows.fnGenerateTempRefCaseTableRow.domain.isEmpty then [] else Tryd.f5.params.toList.map fun t => match Tryd.prog.underlying t with | some (.int k) => some k | _ => none))) = true := by kernel_rfl
theorem k29 : ((Rows.fnGenerateTempRefCaseTableRow.pinned == Rows.fnGenerateTempRefCaseTableRow.pinnedBy)) = true := by kernel_rfl
theorem k30 : ((Rows.fnGenerateTempRefCaseTableRow.veiled == (Tryd.f5.params.toList ++ (OpenSpec.ofChange Rows.fnGenerateTempRefCaseTableSpec).bare.plain.varTypes Tryd.prog ++ Tryd.f5.resultTypes.toList).any (Tryd.prog.veiledRec ·))) = true := by kernel_rfl
theorem k31 : (Rows.fnGenerateTempRefCaseTableRow.veiledFits Tryd.prog Tryd.f5.params.toList (Tryd.f5.params.toList ++ (OpenSpec.ofChange Rows.fnGenerateTempRefCaseTableSpec).bare.plain.varTypes Tryd.prog ++ Tryd.f5.resultTypes.toList)) = true := by kernel_rfl
set_option maxRecDepth 100000 in
theorem closed : joinedFacts Tryd.prog 5 Tryd.f5 (OpenSpec.ofChange Rows.fnGenerateTempRefCaseTableSpec).bare Rows.fnGenerateTempRefCaseTableRow = true := andT (andT (andT (andT (andT (andT (andT (andT (andT (andT (andT (andT (andT (andT (andT (andT (andT (andT (andT (andT (andT (andT (andT (andT (andT (andT (andT (andT (andT (andT (andT k0 k1) k2) k3) k4) k5) k6) k7) k8) k9) k10) k11) k12) k13) k14) k15) k16) k17) k18) k19) k20) k21) k22) k23) k24) k25) k26) k27) k28) k29) k30) k31
end Go.Proofs.YtkmojepgbbdeiaaDoor.fnGenerateTempRefCaseTable
