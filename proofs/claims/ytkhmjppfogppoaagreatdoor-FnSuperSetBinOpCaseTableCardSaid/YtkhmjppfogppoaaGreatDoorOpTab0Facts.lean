/- The closed facts of the row of FnSuperSetBinOpCaseTable, one by one. No condition. -/
import Derived.Test.YtkhmjppfogppoaaGreatDoorCards
import Derived.WalkKit
import Derived.ProofKit
import Derived.JoinedCond
namespace Go.Proofs.YtkhmjppfogppoaaGreatDoor.fnSuperSetBinOpCaseTable
theorem andT {a b : Bool} (h : a = true) (k : b = true) : (a && b) = true := by rw [h, k]; rfl
theorem k0 : (Rows.fnSuperSetBinOpCaseTableRow.wf (OpenSpec.ofChange (OpenSpec.ofChange Rows.fnSuperSetBinOpCaseTableSpec).bare)) = true := by kernel_rfl
theorem k1 : (laidOutB Tryz.prog) = true := by kernel_rfl
theorem k2 : (mapsRowed Tryz.prog) = true := by kernel_rfl
theorem k3 : (Tryz.f5.params.all (Tryz.prog.readableRec ·)) = true := by kernel_rfl
theorem k4 : (namedTie Tryz.prog Rows.fnSuperSetBinOpCaseTableRow.named (OpenSpec.ofChange Rows.fnSuperSetBinOpCaseTableSpec).bare.vars) = true := by kernel_rfl
theorem k5 : ((Rows.fnSuperSetBinOpCaseTableRow.stops == [])) = true := by kernel_rfl
theorem k6 : ((Tryz.prog.stops == [])) = true := by kernel_rfl
theorem k7 : ((Rows.fnSuperSetBinOpCaseTableRow.knobs == [])) = true := by kernel_rfl
theorem k8 : ((Tryz.prog.stopKnobs == [])) = true := by kernel_rfl
theorem k9 : ((Rows.fnSuperSetBinOpCaseTableRow.inPlace == Tryz.prog.inPlace 5)) = true := by kernel_rfl
theorem k10 : ((Rows.fnSuperSetBinOpCaseTableRow.unfollowed == Tryz.prog.unfollowed 5)) = true := by kernel_rfl
theorem k11 : ((Rows.fnSuperSetBinOpCaseTableRow.recurses == Tryz.prog.recurses 5)) = true := by kernel_rfl
theorem k12 : ((Rows.fnSuperSetBinOpCaseTableRow.named == Tryz.prog.varsNamed 5)) = true := by kernel_rfl
theorem k13 : ((Rows.fnSuperSetBinOpCaseTableRow.maps == (Tryz.f5.params.toList ++ (OpenSpec.ofChange Rows.fnSuperSetBinOpCaseTableSpec).bare.plain.varTypes Tryz.prog).any (Tryz.prog.mapsRec ·))) = true := by kernel_rfl
theorem k14 : ((Rows.fnSuperSetBinOpCaseTableRow.ifaces == (Tryz.f5.params.toList ++ (OpenSpec.ofChange Rows.fnSuperSetBinOpCaseTableSpec).bare.plain.varTypes Tryz.prog).any (Tryz.prog.ifacesRec ·))) = true := by kernel_rfl
theorem k15 : ((Rows.fnSuperSetBinOpCaseTableRow.mapsOut == Tryz.prog.mapsAmong Tryz.f5.resultTypes.toList)) = true := by kernel_rfl
theorem k16 : ((Rows.fnSuperSetBinOpCaseTableRow.loops == (Tryz.f5.params.toList ++ (OpenSpec.ofChange Rows.fnSuperSetBinOpCaseTableSpec).bare.plain.varTypes Tryz.prog).any (Tryz.prog.loopsFrom ·))) = true := by kernel_rfl
theorem k17 : ((Rows.fnSuperSetBinOpCaseTableRow.wideKeys == (Tryz.f5.params.toList ++ (OpenSpec.ofChange Rows.fnSuperSetBinOpCaseTableSpec).bare.plain.varTypes Tryz.prog ++ Tryz.f5.resultTypes.toList).any (Tryz.prog.wideKeysFrom ·))) = true := by kernel_rfl
theorem k18 : ((OpenSpec.ofChange Rows.fnSuperSetBinOpCaseTableSpec).bare.vars.all (Tryz.prog.varReadable ·)) = true := by kernel_rfl
theorem k19 : (Tryz.f5.resultTypes.all (fun t => Tryz.prog.readableRec t && decide (t < Tryz.prog.types.size))) = true := by kernel_rfl
theorem k20 : ((Rows.fnSuperSetBinOpCaseTableRow.ifacesOut == Tryz.f5.resultTypes.toList.any (Tryz.prog.ifacesRec ·))) = true := by kernel_rfl
theorem k21 : ((Rows.fnSuperSetBinOpCaseTableRow.loopsOut == Tryz.f5.resultTypes.toList.any (Tryz.prog.loopsFrom ·))) = true := by kernel_rfl
theorem k22 : ((Rows.fnSuperSetBinOpCaseTableRow.plainKeys == Tryz.prog.plainKeys)) = true := by kernel_rfl
theorem k23 : (Rows.fnSuperSetBinOpCaseTableRow.shortTexts.isNone) = true := by kernel_rfl
theorem k24 : (Tryz.prog.stopsHeard) = true := by kernel_rfl
theorem k25 : (Tryz.prog.mayEnter) = true := by kernel_rfl
theorem k26 : ((Rows.fnSuperSetBinOpCaseTableRow.lifted == Tryz.prog.liftsFinal)) = true := by kernel_rfl
theorem k27 : ((Tryz.prog.make == some Rows.fnSuperSetBinOpCaseTableRow.make)) = true := by kernel_rfl
theorem k28 : ((Rows.fnSuperSetBinOpCaseTableRow.kinds == (if Rows.fnSuperSetBinOpCaseTableRow.domain.isEmpty then [] else Tryz.f5.params.toList.map fun t => match Tryz.prog.underlying t with | some (.int k) => some k | _ => none))) = true := by kernel_rfl
theorem k29 : ((Rows.fnSuperSetBinOpCaseTableRow.pinned == Rows.fnSuperSetBinOpCaseTableRow.pinnedBy)) = true := by kernel_rfl
theorem k30 : ((Rows.fnSuperSetBinOpCaseTableRow.veiled == (Tryz.f5.params.toList ++ (OpenSpec.ofChange Rows.fnSuperSetBinOpCaseTableSpec).bare.plain.varTypes Tryz.prog ++ Tryz.f5.resultTypes.toList).any (Tryz.prog.veiledRec ·))) = true := by kernel_rfl
theorem k31 : (Rows.fnSuperSetBinOpCaseTableRow.veiledFits Tryz.prog Tryz.f5.params.toList (Tryz.f5.params.toList ++ (OpenSpec.ofChange Rows.fnSuperSetBinOpCaseTableSpec).bare.plain.varTypes Tryz.prog ++ Tryz.f5.resultTypes.toList)) = true := by kernel_rfl
set_option maxRecDepth 100000 in
theorem closed : joinedFacts Tryz.prog 5 Tryz.f5 (OpenSpec.ofChange Rows.fnSuperSetBinOpCaseTableSpec).bare Rows.fnSuperSetBinOpCaseTableRow = true := andT (andT (andT (andT (andT (andT (andT (andT (andT (andT (andT (andT (andT (andT (andT (andT (andT (andT (andT (andT (andT (andT (andT (andT (andT (andT (andT (andT (andT (andT (andT k0 k1) k2) k3) k4) k5) k6) k7) k8) k9) k10) k11) k12) k13) k14) k15) k16) k17) k18) k19) k20) k21) k22) k23) k24) k25) k26) k27) k28) k29) k30) k31
end Go.Proofs.YtkhmjppfogppoaaGreatDoor.fnSuperSetBinOpCaseTable
