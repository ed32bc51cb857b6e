/- The closed facts of the row of FnMaybeLowerSetBinOpUnloweredMemberIsRefused, one by one. No condition. -/
import Derived.Test.YtkhmjppfogppoaaGreatDoorCards
import Derived.WalkKit
import Derived.ProofKit
import Derived.JoinedCond
namespace Go.Proofs.YtkhmjppfogppoaaGreatDoor.fnMaybeLowerSetBinOpUnloweredMemberIsRefused
theorem andT {a b : Bool} (h : a = true) (k : b = true) : (a && b) = true := by rw [h, k]; rfl
theorem k0 : (Rows.fnMaybeLowerSetBinOpUnloweredMemberIsRefusedRow.wf (OpenSpec.ofChange (OpenSpec.ofChange Rows.fnMaybeLowerSetBinOpUnloweredMemberIsRefusedSpec).bare)) = true := by kernel_rfl
theorem k1 : (laidOutB Tryz.prog) = true := by kernel_rfl
theorem k2 : (mapsRowed Tryz.prog) = true := by kernel_rfl
theorem k3 : (Tryz.f4.params.all (Tryz.prog.readableRec ·)) = true := by kernel_rfl
theorem k4 : (namedTie Tryz.prog Rows.fnMaybeLowerSetBinOpUnloweredMemberIsRefusedRow.named (OpenSpec.ofChange Rows.fnMaybeLowerSetBinOpUnloweredMemberIsRefusedSpec).bare.vars) = true := by kernel_rfl
theorem k5 : ((Rows.fnMaybeLowerSetBinOpUnloweredMemberIsRefusedRow.stops == [])) = true := by kernel_rfl
theorem k6 : ((Tryz.prog.stops == [])) = true := by kernel_rfl
theorem k7 : ((Rows.fnMaybeLowerSetBinOpUnloweredMemberIsRefusedRow.knobs == [])) = true := by kernel_rfl
theorem k8 : ((Tryz.prog.stopKnobs == [])) = true := by kernel_rfl
theorem k9 : ((Rows.fnMaybeLowerSetBinOpUnloweredMemberIsRefusedRow.inPlace == Tryz.prog.inPlace 4)) = true := by kernel_rfl
theorem k10 : ((Rows.fnMaybeLowerSetBinOpUnloweredMemberIsRefusedRow.unfollowed == Tryz.prog.unfollowed 4)) = true := by kernel_rfl
theorem k11 : ((Rows.fnMaybeLowerSetBinOpUnloweredMemberIsRefusedRow.recurses == Tryz.prog.recurses 4)) = true := by kernel_rfl
theorem k12 : ((Rows.fnMaybeLowerSetBinOpUnloweredMemberIsRefusedRow.named == Tryz.prog.varsNamed 4)) = true := by kernel_rfl
theorem k13 : ((Rows.fnMaybeLowerSetBinOpUnloweredMemberIsRefusedRow.maps == (Tryz.f4.params.toList ++ (OpenSpec.ofChange Rows.fnMaybeLowerSetBinOpUnloweredMemberIsRefusedSpec).bare.plain.varTypes Tryz.prog).any (Tryz.prog.mapsRec ·))) = true := by kernel_rfl
theorem k14 : ((Rows.fnMaybeLowerSetBinOpUnloweredMemberIsRefusedRow.ifaces == (Tryz.f4.params.toList ++ (OpenSpec.ofChange Rows.fnMaybeLowerSetBinOpUnloweredMemberIsRefusedSpec).bare.plain.varTypes Tryz.prog).any (Tryz.prog.ifacesRec ·))) = true := by kernel_rfl
theorem k15 : ((Rows.fnMaybeLowerSetBinOpUnloweredMemberIsRefusedRow.mapsOut == Tryz.prog.mapsAmong Tryz.f4.resultTypes.toList)) = true := by kernel_rfl
theorem k16 : ((Rows.fnMaybeLowerSetBinOpUnloweredMemberIsRefusedRow.loops == (Tryz.f4.params.toList ++ (OpenSpec.ofChange Rows.fnMaybeLowerSetBinOpUnloweredMemberIsRefusedSpec).bare.plain.varTypes Tryz.prog).any (Tryz.prog.loopsFrom ·))) = true := by kernel_rfl
theorem k17 : ((Rows.fnMaybeLowerSetBinOpUnloweredMemberIsRefusedRow.wideKeys == (Tryz.f4.params.toList ++ (OpenSpec.ofChange Rows.fnMaybeLowerSetBinOpUnloweredMemberIsRefusedSpec).bare.plain.varTypes Tryz.prog ++ Tryz.f4.resultTypes.toList).any (Tryz.prog.wideKeysFrom ·))) = true := by kernel_rfl
theorem k18 : ((OpenSpec.ofChange Rows.fnMaybeLowerSetBinOpUnloweredMemberIsRefusedSpec).bare.vars.all (Tryz.prog.varReadable ·)) = true := by kernel_rfl
theorem k19 : (Tryz.f4.resultTypes.all (fun t => Tryz.prog.readableRec t && decide (t < Tryz.prog.types.size))) = true := by kernel_rfl
theorem k20 : ((Rows.fnMaybeLowerSetBinOpUnloweredMemberIsRefusedRow.ifacesOut == Tryz.f4.resultTypes.toList.any (Tryz.prog.ifacesRec ·))) = true := by kernel_rfl
theorem k21 : ((Rows.fnMaybeLowerSetBinOpUnloweredMemberIsRefusedRow.loopsOut == Tryz.f4.resultTypes.toList.any (Tryz.prog.loopsFrom ·))) = true := by kernel_rfl
theorem k22 : ((Rows.fnMaybeLowerSetBinOpUnloweredMemberIsRefusedRow.plainKeys == Tryz.prog.plainKeys)) = true := by kernel_rfl
theorem k23 : (Rows.fnMaybeLowerSetBinOpUnloweredMemberIsRefusedRow.shortTexts.isNone) = true := by kernel_rfl
theorem k24 : (Tryz.prog.stopsHeard) = true := by kernel_rfl
theorem k25 : (Tryz.prog.mayEnter) = true := by kernel_rfl
theorem k26 : ((Rows.fnMaybeLowerSetBinOpUnloweredMemberIsRefusedRow.lifted == Tryz.prog.liftsFinal)) = true := by kernel_rfl
theorem k27 : ((Tryz.prog.make == some Rows.fnMaybeLowerSetBinOpUnloweredMemberIsRefusedRow.make)) = true := by kernel_rfl
theorem k28 : ((Rows.fnMaybeLowerSetBinOpUnloweredMemberIsRefusedRow.kinds == (if Rows.fnMaybeLowerSetBinOpUnloweredMemberIsRefusedRow.domain.isEmpty then [] else Tryz.f4.params.toList.map fun t => match Tryz.prog.underlying t with | some (.int k) => some k | _ => none))) = true := by kernel_rfl
theorem k29 : ((Rows.fnMaybeLowerSetBinOpUnloweredMemberIsRefusedRow.pinned == Rows.fnMaybeLowerSetBinOpUnloweredMemberIsRefusedRow.pinnedBy)) = true := by kernel_rfl
theorem k30 : ((Rows.fnMaybeLowerSetBinOpUnloweredMemberIsRefusedRow.veiled == (Tryz.f4.params.toList ++ (OpenSpec.ofChange Rows.fnMaybeLowerSetBinOpUnloweredMemberIsRefusedSpec).bare.plain.varTypes Tryz.prog ++ Tryz.f4.resultTypes.toList).any (Tryz.prog.veiledRec ·))) = true := by kernel_rfl
theorem k31 : (Rows.fnMaybeLowerSetBinOpUnloweredMemberIsRefusedRow.veiledFits Tryz.prog Tryz.f4.params.toList (Tryz.f4.params.toList ++ (OpenSpec.ofChange Rows.fnMaybeLowerSetBinOpUnloweredMemberIsRefusedSpec).bare.plain.varTypes Tryz.prog ++ Tryz.f4.resultTypes.toList)) = true := by kernel_rfl
set_option maxRecDepth 100000 in
theorem closed : joinedFacts Tryz.prog 4 Tryz.f4 (OpenSpec.ofChange Rows.fnMaybeLowerSetBinOpUnloweredMemberIsRefusedSpec).bare Rows.fnMaybeLowerSetBinOpUnloweredMemberIsRefusedRow = true := andT (andT (andT (andT (andT (andT (andT (andT (andT (andT (andT (andT (andT (andT (andT (andT (andT (andT (andT (andT (andT (andT (andT (andT (andT (andT (andT (andT (andT (andT (andT k0 k1) k2) k3) k4) k5) k6) k7) k8) k9) k10) k11) k12) k13) k14) k15) k16) k17) k18) k19) k20) k21) k22) k23) k24) k25) k26) k27) k28) k29) k30) k31
end Go.Proofs.YtkhmjppfogppoaaGreatDoor.fnMaybeLowerSetBinOpUnloweredMemberIsRefused
