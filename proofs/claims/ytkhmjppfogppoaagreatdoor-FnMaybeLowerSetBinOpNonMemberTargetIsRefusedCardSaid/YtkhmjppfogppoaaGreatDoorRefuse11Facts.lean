/- The closed facts of the row of FnMaybeLowerSetBinOpNonMemberTargetIsRefused, one by one. No condition. -/
import Derived.Test.YtkhmjppfogppoaaGreatDoorCards
import Derived.WalkKit
import Derived.ProofKit
import Derived.JoinedCond
namespace Go.Proofs.YtkhmjppfogppoaaGreatDoor.fnMaybeLowerSetBinOpNonMemberTargetIsRefused
theorem andT {a b : Bool} (h : a = true) (k : b = true) : (a && b) = true := by rw [h, k]; rfl
theorem k0 : (Rows.fnMaybeLowerSetBinOpNonMemberTargetIsRefusedRow.wf (OpenSpec.ofChange (OpenSpec.ofChange Rows.fnMaybeLowerSetBinOpNonMemberTargetIsRefusedSpec).bare)) = true := by kernel_rfl
theorem k1 : (laidOutB Tryz.prog) = true := by kernel_rfl
theorem k2 : (mapsRowed Tryz.prog) = true := by kernel_rfl
theorem k3 : (Tryz.f3.params.all (Tryz.prog.readableRec ·)) = true := by kernel_rfl
theorem k4 : (namedTie Tryz.prog Rows.fnMaybeLowerSetBinOpNonMemberTargetIsRefusedRow.named (OpenSpec.ofChange Rows.fnMaybeLowerSetBinOpNonMemberTargetIsRefusedSpec).bare.vars) = true := by kernel_rfl
theorem k5 : ((Rows.fnMaybeLowerSetBinOpNonMemberTargetIsRefusedRow.stops == [])) = true := by kernel_rfl
theorem k6 : ((Tryz.prog.stops == [])) = true := by kernel_rfl
theorem k7 : ((Rows.fnMaybeLowerSetBinOpNonMemberTargetIsRefusedRow.knobs == [])) = true := by kernel_rfl
theorem k8 : ((Tryz.prog.stopKnobs == [])) = true := by kernel_rfl
theorem k9 : ((Rows.fnMaybeLowerSetBinOpNonMemberTargetIsRefusedRow.inPlace == Tryz.prog.inPlace 3)) = true := by kernel_rfl
theorem k10 : ((Rows.fnMaybeLowerSetBinOpNonMemberTargetIsRefusedRow.unfollowed == Tryz.prog.unfollowed 3)) = true := by kernel_rfl
theorem k11 : ((Rows.fnMaybeLowerSetBinOpNonMemberTargetIsRefusedRow.recurses == Tryz.prog.recurses 3)) = true := by kernel_rfl
theorem k12 : ((Rows.fnMaybeLowerSetBinOpNonMemberTargetIsRefusedRow.named == Tryz.prog.varsNamed 3)) = true := by kernel_rfl
theorem k13 : ((Rows.fnMaybeLowerSetBinOpNonMemberTargetIsRefusedRow.maps == (Tryz.f3.params.toList ++ (OpenSpec.ofChange Rows.fnMaybeLowerSetBinOpNonMemberTargetIsRefusedSpec).bare.plain.varTypes Tryz.prog).any (Tryz.prog.mapsRec ·))) = true := by kernel_rfl
theorem k14 : ((Rows.fnMaybeLowerSetBinOpNonMemberTargetIsRefusedRow.ifaces == (Tryz.f3.params.toList ++ (OpenSpec.ofChange Rows.fnMaybeLowerSetBinOpNonMemberTargetIsRefusedSpec).bare.plain.varTypes Tryz.prog).any (Tryz.prog.ifacesRec ·))) = true := by kernel_rfl
theorem k15 : ((Rows.fnMaybeLowerSetBinOpNonMemberTargetIsRefusedRow.mapsOut == Tryz.prog.mapsAmong Tryz.f3.resultTypes.toList)) = true := by kernel_rfl
theorem k16 : ((Rows.fnMaybeLowerSetBinOpNonMemberTargetIsRefusedRow.loops == (Tryz.f3.params.toList ++ (OpenSpec.ofChange Rows.fnMaybeLowerSetBinOpNonMemberTargetIsRefusedSpec).bare.plain.varTypes Tryz.prog).any (Tryz.prog.loopsFrom ·))) = true := by kernel_rfl
theorem k17 : ((Rows.fnMaybeLowerSetBinOpNonMemberTargetIsRefusedRow.wideKeys == (Tryz.f3.params.toList ++ (OpenSpec.ofChange Rows.fnMaybeLowerSetBinOpNonMemberTargetIsRefusedSpec).bare.plain.varTypes Tryz.prog ++ Tryz.f3.resultTypes.toList).any (Tryz.prog.wideKeysFrom ·))) = true := by kernel_rfl
theorem k18 : ((OpenSpec.ofChange Rows.fnMaybeLowerSetBinOpNonMemberTargetIsRefusedSpec).bare.vars.all (Tryz.prog.varReadable ·)) = true := by kernel_rfl
theorem k19 : (Tryz.f3.resultTypes.all (fun t => Tryz.prog.readableRec t && decide (t < Tryz.prog.types.size))) = true := by kernel_rfl
theorem k20 : ((Rows.fnMaybeLowerSetBinOpNonMemberTargetIsRefusedRow.ifacesOut == Tryz.f3.resultTypes.toList.any (Tryz.prog.ifacesRec ·))) = true := by kernel_rfl
theorem k21 : ((Rows.fnMaybeLowerSetBinOpNonMemberTargetIsRefusedRow.loopsOut == Tryz.f3.resultTypes.toList.any (Tryz.prog.loopsFrom ·))) = true := by kernel_rfl
theorem k22 : ((Rows.fnMaybeLowerSetBinOpNonMemberTargetIsRefusedRow.plainKeys == Tryz.prog.plainKeys)) = true := by kernel_rfl
theorem k23 : (Rows.fnMaybeLowerSetBinOpNonMemberTargetIsRefusedRow.shortTexts.isNone) = true := by kernel_rfl
theorem k24 : (Tryz.prog.stopsHeard) = true := by kernel_rfl
theorem k25 : (Tryz.prog.mayEnter) = true := by kernel_rfl
theorem k26 : ((Rows.fnMaybeLowerSetBinOpNonMemberTargetIsRefusedRow.lifted == Tryz.prog.liftsFinal)) = true := by kernel_rfl
theorem k27 : ((Tryz.prog.make == some Rows.fnMaybeLowerSetBinOpNonMemberTargetIsRefusedRow.make)) = true := by kernel_rfl
theorem k28 : ((Rows.fnMaybeLowerSetBinOpNonMemberTargetIsRefusedRow.kinds == (if Rows.fnMaybeLowerSetBinOpNonMemberTargetIsRefusedRow.domain.isEmpty then [] else Tryz.f3.params.toList.map fun t => match Tryz.prog.underlying t with | some (.int k) => some k | _ => none))) = true := by kernel_rfl
theorem k29 : ((Rows.fnMaybeLowerSetBinOpNonMemberTargetIsRefusedRow.pinned == Rows.fnMaybeLowerSetBinOpNonMemberTargetIsRefusedRow.pinnedBy)) = true := by kernel_rfl
theorem k30 : ((Rows.fnMaybeLowerSetBinOpNonMemberTargetIsRefusedRow.veiled == (Tryz.f3.params.toList ++ (OpenSpec.ofChange Rows.fnMaybeLowerSetBinOpNonMemberTargetIsRefusedSpec).bare.plain.varTypes Tryz.prog ++ Tryz.f3.resultTypes.toList).any (Tryz.prog.veiledRec ·))) = true := by kernel_rfl
theorem k31 : (Rows.fnMaybeLowerSetBinOpNonMemberTargetIsRefusedRow.veiledFits Tryz.prog Tryz.f3.params.toList (Tryz.f3.params.toList ++ (OpenSpec.ofChange Rows.fnMaybeLowerSetBinOpNonMemberTargetIsRefusedSpec).bare.plain.varTypes Tryz.prog ++ Tryz.f3.resultTypes.toList)) = true := by kernel_rfl
set_option maxRecDepth 100000 in
theorem closed : joinedFacts Tryz.prog 3 Tryz.f3 (OpenSpec.ofChange Rows.fnMaybeLowerSetBinOpNonMemberTargetIsRefusedSpec).bare Rows.fnMaybeLowerSetBinOpNonMemberTargetIsRefusedRow = true := andT (andT (andT (andT (andT (andT (andT (andT (andT (andT (andT (andT (andT (andT (andT (andT (andT (andT (andT (andT (andT (andT (andT (andT (andT (andT (andT (andT (andT (andT (andT k0 k1) k2) k3) k4) k5) k6) k7) k8) k9) k10) k11) k12) k13) k14) k15) k16) k17) k18) k19) k20) k21) k22) k23) k24) k25) k26) k27) k28) k29) k30) k31
end Go.Proofs.YtkhmjppfogppoaaGreatDoor.fnMaybeLowerSetBinOpNonMemberTargetIsRefused
