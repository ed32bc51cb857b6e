/- The closed facts of the row of FnSuperSetCaseTable, one by one. No condition. -/
import Derived.Test.YtkhmjppfogppoaaDoorCards
import Derived.WalkKit
import Derived.ProofKit
import Derived.JoinedCond
namespace Go.Proofs.YtkhmjppfogppoaaDoor.fnSuperSetCaseTable
theorem andT {a b : Bool} (h : a = true) (k : b = true) : (a && b) = true := by rw [h, k]; rfl
theorem k0 : (Rows.fnSuperSetCaseTableRow.wf (OpenSpec.ofChange (OpenSpec.ofChange Rows.fnSuperSetCaseTableSpec).bare)) = true := by kernel_rfl
theorem k1 : (laidOutB Tryd.prog) = true := by kernel_rfl
theorem k2 : (mapsRowed Tryd.prog) = true := by kernel_rfl
theorem k3 : (Tryd.f5.params.all (Tryd.prog.readableRec ·)) = true := by kernel_rfl
theorem k4 : (namedTie Tryd.prog Rows.fnSuperSetCaseTableRow.named (OpenSpec.ofChange Rows.fnSuperSetCaseTableSpec).bare.vars) = true := by kernel_rfl
theorem k5 : ((Rows.fnSuperSetCaseTableRow.stops == [])) = true := by kernel_rfl
theorem k6 : ((Tryd.prog.stops == [])) = true := by kernel_rfl
theorem k7 : ((Rows.fnSuperSetCaseTableRow.knobs == [])) = true := by kernel_rfl
theorem k8 : ((Tryd.prog.stopKnobs == [])) = true := by kernel_rfl
theorem k9 : ((Rows.fnSuperSetCaseTableRow.inPlace == Tryd.prog.inPlace 5)) = true := by kernel_rfl
theorem k10 : ((Rows.fnSuperSetCaseTableRow.unfollowed == Tryd.prog.unfollowed 5)) = true := by kernel_rfl
theorem k11 : ((Rows.fnSuperSetCaseTableRow.recurses == Tryd.prog.recurses 5)) = true := by kernel_rfl
theorem k12 : ((Rows.fnSuperSetCaseTableRow.named == Tryd.prog.varsNamed 5)) = true := by kernel_rfl
theorem k13 : ((Rows.fnSuperSetCaseTableRow.maps == (Tryd.f5.params.toList ++ (OpenSpec.ofChange Rows.fnSuperSetCaseTableSpec).bare.plain.varTypes Tryd.prog).any (Tryd.prog.mapsRec ·))) = true := by kernel_rfl
theorem k14 : ((Rows.fnSuperSetCaseTableRow.ifaces == (Tryd.f5.params.toList ++ (OpenSpec.ofChange Rows.fnSuperSetCaseTableSpec).bare.plain.varTypes Tryd.prog).any (Tryd.prog.ifacesRec ·))) = true := by kernel_rfl
theorem k15 : ((Rows.fnSuperSetCaseTableRow.mapsOut == Tryd.prog.mapsAmong Tryd.f5.resultTypes.toList)) = true := by kernel_rfl
theorem k16 : ((Rows.fnSuperSetCaseTableRow.loops == (Tryd.f5.params.toList ++ (OpenSpec.ofChange Rows.fnSuperSetCaseTableSpec).bare.plain.varTypes Tryd.prog).any (Tryd.prog.loopsFrom ·))) = true := by kernel_rfl
theorem k17 : ((Rows.fnSuperSetCaseTableRow.wideKeys == (Tryd.f5.params.toList ++ (OpenSpec.ofChange Rows.fnSuperSetCaseTableSpec).bare.plain.varTypes Tryd.prog ++ Tryd.f5.resultTypes.toList).any (Tryd.prog.wideKeysFrom ·))) = true := by kernel_rfl
theorem k18 : ((OpenSpec.ofChange Rows.fnSuperSetCaseTableSpec).bare.vars.all (Tryd.prog.varReadable ·)) = true := by kernel_rfl
theorem k19 : (Tryd.f5.resultTypes.all (fun t => Tryd.prog.readableRec t && decide (t < Tryd.prog.types.size))) = true := by kernel_rfl
theorem k20 : ((Rows.fnSuperSetCaseTableRow.ifacesOut == Tryd.f5.resultTypes.toList.any (Tryd.prog.ifacesRec ·))) = true := by kernel_rfl
theorem k21 : ((Rows.fnSuperSetCaseTableRow.loopsOut == Tryd.f5.resultTypes.toList.any (Tryd.prog.loopsFrom ·))) = true := by kernel_rfl
theorem k22 : ((Rows.fnSuperSetCaseTableRow.plainKeys == Tryd.prog.plainKeys)) = true := by kernel_rfl
theorem k23 : (Rows.fnSuperSetCaseTableRow.shortTexts.isNone) = true := by kernel_rfl
theorem k24 : (Tryd.prog.stopsHeard) = true := by kernel_rfl
theorem k25 : (Tryd.prog.mayEnter) = true := by kernel_rfl
theorem k26 : ((Rows.fnSuperSetCaseTableRow.lifted == Tryd.prog.liftsFinal)) = true := by kernel_rfl
theorem k27 : ((Tryd.prog.make == some Rows.fnSuperSetCaseTableRow.make)) = true := by kernel_rfl
theorem k28 : ((Rows.fnSuperSetCaseTableRow.kinds == (if Rows.fnSuperSetCaseTableRow.domain.isEmpty then [] else Tryd.f5.params.toList.map fun t => match Tryd.prog.underlying t with | some (.int k) => some k | _ => none))) = true := by kernel_rfl
theorem k29 : ((Rows.fnSuperSetCaseTableRow.pinned == Rows.fnSuperSetCaseTableRow.pinnedBy)) = true := by kernel_rfl
theorem k30 : ((Rows.fnSuperSetCaseTableRow.veiled == (Tryd.f5.params.toList ++ (OpenSpec.ofChange Rows.fnSuperSetCaseTableSpec).bare.plain.varTypes Tryd.prog ++ Tryd.f5.resultTypes.toList).any (Tryd.prog.veiledRec ·))) = true := by kernel_rfl
theorem k31 : (Rows.fnSuperSetCaseTableRow.veiledFits Tryd.prog Tryd.f5.params.toList (Tryd.f5.params.toList ++ (OpenSpec.ofChange Rows.fnSuperSetCaseTableSpec).bare.plain.varTypes Tryd.prog ++ Tryd.f5.resultTypes.toList)) = true := by kernel_rfl
set_option maxRecDepth 100000 in
theorem closed : joinedFacts Tryd.prog 5 Tryd.f5 (OpenSpec.ofChange Rows.fnSuperSetCaseTableSpec).bare Rows.fnSuperSetCaseTableRow = true := andT (andT (andT (andT (andT (andT (andT (andT (andT (andT (andT (andT (andT (andT (andT (andT (andT (andT (andT (andT (andT (andT (andT (andT (andT (andT (andT (andT (andT (andT (andT k0 k1) k2) k3) k4) k5) k6) k7) k8) k9) k10) k11) k12) k13) k14) k15) k16) k17) k18) k19) k20) k21) k22) k23) k24) k25) k26) k27) k28) k29) k30) k31
end Go.Proofs.YtkhmjppfogppoaaDoor.fnSuperSetCaseTable
