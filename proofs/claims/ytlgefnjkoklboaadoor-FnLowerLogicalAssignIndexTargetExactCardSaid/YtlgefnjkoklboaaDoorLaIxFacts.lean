/- The closed facts of the row of FnLowerLogicalAssignIndexTargetExact, one by one. No condition. -/
import Derived.Test.YtlgefnjkoklboaaDoorCards
import Derived.WalkKit
import Derived.ProofKit
import Derived.JoinedCond
namespace Go.Proofs.YtlgefnjkoklboaaDoor.fnLowerLogicalAssignIndexTargetExact
theorem andT {a b : Bool} (h : a = true) (k : b = true) : (a && b) = true := by rw [h, k]; rfl
theorem k0 : (Rows.fnLowerLogicalAssignIndexTargetExactRow.wf (OpenSpec.ofChange (OpenSpec.ofChange Rows.fnLowerLogicalAssignIndexTargetExactSpec).bare)) = true := by kernel_rfl
theorem k1 : (laidOutB Tryd.prog) = true := by kernel_rfl
theorem k2 : (mapsRowed Tryd.prog) = true := by kernel_rfl
theorem k3 : (Tryd.f6.params.all (Tryd.prog.readableRec ·)) = true := by kernel_rfl
theorem k4 : (namedTie Tryd.prog Rows.fnLowerLogicalAssignIndexTargetExactRow.named (OpenSpec.ofChange Rows.fnLowerLogicalAssignIndexTargetExactSpec).bare.vars) = true := by kernel_rfl
theorem k5 : ((Rows.fnLowerLogicalAssignIndexTargetExactRow.stops == [])) = true := by kernel_rfl
theorem k6 : ((Tryd.prog.stops == [])) = true := by kernel_rfl
theorem k7 : ((Rows.fnLowerLogicalAssignIndexTargetExactRow.knobs == [])) = true := by kernel_rfl
theorem k8 : ((Tryd.prog.stopKnobs == [])) = true := by kernel_rfl
theorem k9 : ((Rows.fnLowerLogicalAssignIndexTargetExactRow.inPlace == Tryd.prog.inPlace 6)) = true := by kernel_rfl
theorem k10 : ((Rows.fnLowerLogicalAssignIndexTargetExactRow.unfollowed == Tryd.prog.unfollowed 6)) = true := by kernel_rfl
theorem k11 : ((Rows.fnLowerLogicalAssignIndexTargetExactRow.recurses == Tryd.prog.recurses 6)) = true := by kernel_rfl
theorem k12 : ((Rows.fnLowerLogicalAssignIndexTargetExactRow.named == Tryd.prog.varsNamed 6)) = true := by kernel_rfl
theorem k13 : ((Rows.fnLowerLogicalAssignIndexTargetExactRow.maps == (Tryd.f6.params.toList ++ (OpenSpec.ofChange Rows.fnLowerLogicalAssignIndexTargetExactSpec).bare.plain.varTypes Tryd.prog).any (Tryd.prog.mapsRec ·))) = true := by kernel_rfl
theorem k14 : ((Rows.fnLowerLogicalAssignIndexTargetExactRow.ifaces == (Tryd.f6.params.toList ++ (OpenSpec.ofChange Rows.fnLowerLogicalAssignIndexTargetExactSpec).bare.plain.varTypes Tryd.prog).any (Tryd.prog.ifacesRec ·))) = true := by kernel_rfl
theorem k15 : ((Rows.fnLowerLogicalAssignIndexTargetExactRow.mapsOut == Tryd.prog.mapsAmong Tryd.f6.resultTypes.toList)) = true := by kernel_rfl
theorem k16 : ((Rows.fnLowerLogicalAssignIndexTargetExactRow.loops == (Tryd.f6.params.toList ++ (OpenSpec.ofChange Rows.fnLowerLogicalAssignIndexTargetExactSpec).bare.plain.varTypes Tryd.prog).any (Tryd.prog.loopsFrom ·))) = true := by kernel_rfl
theorem k17 : ((Rows.fnLowerLogicalAssignIndexTargetExactRow.wideKeys == (Tryd.f6.params.toList ++ (OpenSpec.ofChange Rows.fnLowerLogicalAssignIndexTargetExactSpec).bare.plain.varTypes Tryd.prog ++ Tryd.f6.resultTypes.toList).any (Tryd.prog.wideKeysFrom ·))) = true := by kernel_rfl
theorem k18 : ((OpenSpec.ofChange Rows.fnLowerLogicalAssignIndexTargetExactSpec).bare.vars.all (Tryd.prog.varReadable ·)) = true := by kernel_rfl
theorem k19 : (Tryd.f6.resultTypes.all (fun t => Tryd.prog.readableRec t && decide (t < Tryd.prog.types.size))) = true := by kernel_rfl
theorem k20 : ((Rows.fnLowerLogicalAssignIndexTargetExactRow.ifacesOut == Tryd.f6.resultTypes.toList.any (Tryd.prog.ifacesRec ·))) = true := by kernel_rfl
theorem k21 : ((Rows.fnLowerLogicalAssignIndexTargetExactRow.loopsOut == Tryd.f6.resultTypes.toList.any (Tryd.prog.loopsFrom ·))) = true := by kernel_rfl
theorem k22 : ((Rows.fnLowerLogicalAssignIndexTargetExactRow.plainKeys == Tryd.prog.plainKeys)) = true := by kernel_rfl
theorem k23 : (Rows.fnLowerLogicalAssignIndexTargetExactRow.shortTexts.isNone) = true := by kernel_rfl
theorem k24 : (Tryd.prog.stopsHeard) = true := by kernel_rfl
theorem k25 : (Tryd.prog.mayEnter) = true := by kernel_rfl
theorem k26 : ((Rows.fnLowerLogicalAssignIndexTargetExactRow.lifted == Tryd.prog.liftsFinal)) = true := by kernel_rfl
theorem k27 : ((Tryd.prog.make == some Rows.fnLowerLogicalAssignIndexTargetExactRow.make)) = true := by kernel_rfl
theorem k28 : ((Rows.fnLowerLogicalAssignIndexTargetExactRow.kinds == (if Rows.fnLowerLogicalAssignIndexTargetExactRow.domain.isEmpty then [] else Tryd.f6.params.toList.map fun t => match Tryd.prog.underlying t with | some (.int k) => some k | _ => none))) = true := by kernel_rfl
theorem k29 : ((Rows.fnLowerLogicalAssignIndexTargetExactRow.pinned == Rows.fnLowerLogicalAssignIndexTargetExactRow.pinnedBy)) = true := by kernel_rfl
theorem k30 : ((Rows.fnLowerLogicalAssignIndexTargetExactRow.veiled == (Tryd.f6.params.toList ++ (OpenSpec.ofChange Rows.fnLowerLogicalAssignIndexTargetExactSpec).bare.plain.varTypes Tryd.prog ++ Tryd.f6.resultTypes.toList).any (Tryd.prog.veiledRec ·))) = true := by kernel_rfl
theorem k31 : (Rows.fnLowerLogicalAssignIndexTargetExactRow.veiledFits Tryd.prog Tryd.f6.params.toList (Tryd.f6.params.toList ++ (OpenSpec.ofChange Rows.fnLowerLogicalAssignIndexTargetExactSpec).bare.plain.varTypes Tryd.prog ++ Tryd.f6.resultTypes.toList)) = true := by kernel_rfl
set_option maxRecDepth 100000 in
theorem closed : joinedFacts Tryd.prog 6 Tryd.f6 (OpenSpec.ofChange Rows.fnLowerLogicalAssignIndexTargetExactSpec).bare Rows.fnLowerLogicalAssignIndexTargetExactRow = true := andT (andT (andT (andT (andT (andT (andT (andT (andT (andT (andT (andT (andT (andT (andT (andT (andT (andT (andT (andT (andT (andT (andT (andT (andT (andT (andT (andT (andT (andT (andT k0 k1) k2) k3) k4) k5) k6) k7) k8) k9) k10) k11) k12) k13) k14) k15) k16) k17) k18) k19) k20) k21) k22) k23) k24) k25) k26) k27) k28) k29) k30) k31
end Go.Proofs.YtlgefnjkoklboaaDoor.fnLowerLogicalAssignIndexTargetExact
