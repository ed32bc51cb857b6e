/- The closed facts of the row of FnLowerNullishAssignIndexTargetExact, one by one. No condition. -/
import Derived.Test.YtlgefnjkoklboaaGreatDoorCards
import Derived.WalkKit
import Derived.ProofKit
import Derived.JoinedCond
namespace Go.Proofs.YtlgefnjkoklboaaGreatDoor.fnLowerNullishAssignIndexTargetExact
theorem andT {a b : Bool} (h : a = true) (k : b = true) : (a && b) = true := by rw [h, k]; rfl
theorem k0 : (Rows.fnLowerNullishAssignIndexTargetExactRow.wf (OpenSpec.ofChange (OpenSpec.ofChange Rows.fnLowerNullishAssignIndexTargetExactSpec).bare)) = true := by kernel_rfl
theorem k1 : (laidOutB Tryz.prog) = true := by kernel_rfl
theorem k2 : (mapsRowed Tryz.prog) = true := by kernel_rfl
theorem k3 : (Tryz.f3.params.all (Tryz.prog.readableRec ·)) = true := by kernel_rfl
theorem k4 : (namedTie Tryz.prog Rows.fnLowerNullishAssignIndexTargetExactRow.named (OpenSpec.ofChange Rows.fnLowerNullishAssignIndexTargetExactSpec).bare.vars) = true := by kernel_rfl
theorem k5 : ((Rows.fnLowerNullishAssignIndexTargetExactRow.stops == [])) = true := by kernel_rfl
theorem k6 : ((Tryz.prog.stops == [])) = true := by kernel_rfl
theorem k7 : ((Rows.fnLowerNullishAssignIndexTargetExactRow.knobs == [])) = true := by kernel_rfl
theorem k8 : ((Tryz.prog.stopKnobs == [])) = true := by kernel_rfl
theorem k9 : ((Rows.fnLowerNullishAssignIndexTargetExactRow.inPlace == Tryz.prog.inPlace 3)) = true := by kernel_rfl
theorem k10 : ((Rows.fnLowerNullishAssignIndexTargetExactRow.unfollowed == Tryz.prog.unfollowed 3)) = true := by kernel_rfl
theorem k11 : ((Rows.fnLowerNullishAssignIndexTargetExactRow.recurses == Tryz.prog.recurses 3)) = true := by kernel_rfl
theorem k12 : ((Rows.fnLowerNullishAssignIndexTargetExactRow.named == Tryz.prog.varsNamed 3)) = true := by kernel_rfl
theorem k13 : ((Rows.fnLowerNullishAssignIndexTargetExactRow.maps == (Tryz.f3.params.toList ++ (OpenSpec.ofChange Rows.fnLowerNullishAssignIndexTargetExactSpec).bare.plain.varTypes Tryz.prog).any (Tryz.prog.mapsRec ·))) = true := by kernel_rfl
theorem k14 : ((Rows.fnLowerNullishAssignIndexTargetExactRow.ifaces == (Tryz.f3.params.toList ++ (OpenSpec.ofChange Rows.fnLowerNullishAssignIndexTargetExactSpec).bare.plain.varTypes Tryz.prog).any (Tryz.prog.ifacesRec ·))) = true := by kernel_rfl
theorem k15 : ((Rows.fnLowerNullishAssignIndexTargetExactRow.mapsOut == Tryz.prog.mapsAmong Tryz.f3.resultTypes.toList)) = true := by kernel_rfl
theorem k16 : ((Rows.fnLowerNullishAssignIndexTargetExactRow.loops == (Tryz.f3.params.toList ++ (OpenSpec.ofChange Rows.fnLowerNullishAssignIndexTargetExactSpec).bare.plain.varTypes Tryz.prog).any (Tryz.prog.loopsFrom ·))) = true := by kernel_rfl
theorem k17 : ((Rows.fnLowerNullishAssignIndexTargetExactRow.wideKeys == (Tryz.f3.params.toList ++ (OpenSpec.ofChange Rows.fnLowerNullishAssignIndexTargetExactSpec).bare.plain.varTypes Tryz.prog ++ Tryz.f3.resultTypes.toList).any (Tryz.prog.wideKeysFrom ·))) = true := by kernel_rfl
theorem k18 : ((OpenSpec.ofChange Rows.fnLowerNullishAssignIndexTargetExactSpec).bare.vars.all (Tryz.prog.varReadable ·)) = true := by kernel_rfl
theorem k19 : (Tryz.f3.resultTypes.all (fun t => Tryz.prog.readableRec t && decide (t < Tryz.prog.types.size))) = true := by kernel_rfl
theorem k20 : ((Rows.fnLowerNullishAssignIndexTargetExactRow.ifacesOut == Tryz.f3.resultTypes.toList.any (Tryz.prog.ifacesRec ·))) = true := by kernel_rfl
theorem k21 : ((Rows.fnLowerNullishAssignIndexTargetExactRow.loopsOut == Tryz.f3.resultTypes.toList.any (Tryz.prog.loopsFrom ·))) = true := by kernel_rfl
theorem k22 : ((Rows.fnLowerNullishAssignIndexTargetExactRow.plainKeys == Tryz.prog.plainKeys)) = true := by kernel_rfl
theorem k23 : (Rows.fnLowerNullishAssignIndexTargetExactRow.shortTexts.isNone) = true := by kernel_rfl
theorem k24 : (Tryz.prog.stopsHeard) = true := by kernel_rfl
theorem k25 : (Tryz.prog.mayEnter) = true := by kernel_rfl
theorem k26 : ((Rows.fnLowerNullishAssignIndexTargetExactRow.lifted == Tryz.prog.liftsFinal)) = true := by kernel_rfl
theorem k27 : ((Tryz.prog.make == some Rows.fnLowerNullishAssignIndexTargetExactRow.make)) = true := by kernel_rfl
theorem k28 : ((Rows.fnLowerNullishAssignIndexTargetExactRow.kinds == (if Rows.fnLowerNullishAssignIndexTargetExactRow.domain.isEmpty then [] else Tryz.f3.params.toList.map fun t => match Tryz.prog.underlying t with | some (.int k) => some k | _ => none))) = true := by kernel_rfl
theorem k29 : ((Rows.fnLowerNullishAssignIndexTargetExactRow.pinned == Rows.fnLowerNullishAssignIndexTargetExactRow.pinnedBy)) = true := by kernel_rfl
theorem k30 : ((Rows.fnLowerNullishAssignIndexTargetExactRow.veiled == (Tryz.f3.params.toList ++ (OpenSpec.ofChange Rows.fnLowerNullishAssignIndexTargetExactSpec).bare.plain.varTypes Tryz.prog ++ Tryz.f3.resultTypes.toList).any (Tryz.prog.veiledRec ·))) = true := by kernel_rfl
theorem k31 : (Rows.fnLowerNullishAssignIndexTargetExactRow.veiledFits Tryz.prog Tryz.f3.params.toList (Tryz.f3.params.toList ++ (OpenSpec.ofChange Rows.fnLowerNullishAssignIndexTargetExactSpec).bare.plain.varTypes Tryz.prog ++ Tryz.f3.resultTypes.toList)) = true := by kernel_rfl
set_option maxRecDepth 100000 in
theorem closed : joinedFacts Tryz.prog 3 Tryz.f3 (OpenSpec.ofChange Rows.fnLowerNullishAssignIndexTargetExactSpec).bare Rows.fnLowerNullishAssignIndexTargetExactRow = true := andT (andT (andT (andT (andT (andT (andT (andT (andT (andT (andT (andT (andT (andT (andT (andT (andT (andT (andT (andT (andT (andT (andT (andT (andT (andT (andT (andT (andT (andT (andT k0 k1) k2) k3) k4) k5) k6) k7) k8) k9) k10) k11) k12) k13) k14) k15) k16) k17) k18) k19) k20) k21) k22) k23) k24) k25) k26) k27) k28) k29) k30) k31
end Go.Proofs.YtlgefnjkoklboaaGreatDoor.fnLowerNullishAssignIndexTargetExact
