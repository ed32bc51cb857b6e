/- The closed facts of the row of FnLowerExponentDotTargetExact, one by one. No condition. -/
import Derived.Test.YtlgefnjkoklboaaDoorCards
import Derived.WalkKit
import Derived.ProofKit
import Derived.JoinedCond
namespace Go.Proofs.YtlgefnjkoklboaaDoor.fnLowerExponentDotTargetExact
theorem andT {a b : Bool} (h : a = true) (k : b = true) : (a && b) = true := by rw [h, k]; rfl
theorem k0 : (Rows.fnLowerExponentDotTargetExactRow.wf (OpenSpec.ofChange (OpenSpec.ofChange Rows.fnLowerExponentDotTargetExactSpec).bare)) = true := by kernel_rfl
theorem k1 : (laidOutB Tryd.prog) = true := by kernel_rfl
theorem k2 : (mapsRowed Tryd.prog) = true := by kernel_rfl
theorem k3 : (Tryd.f8.params.all (Tryd.prog.readableRec ·)) = true := by kernel_rfl
theorem k4 : (namedTie Tryd.prog Rows.fnLowerExponentDotTargetExactRow.named (OpenSpec.ofChange Rows.fnLowerExponentDotTargetExactSpec).bare.vars) = true := by kernel_rfl
theorem k5 : ((Rows.fnLowerExponentDotTargetExactRow.stops == [])) = true := by kernel_rfl
theorem k6 : ((Tryd.prog.stops == [])) = true := by kernel_rfl
theorem k7 : ((Rows.fnLowerExponentDotTargetExactRow.knobs == [])) = true := by kernel_rfl
theorem k8 : ((Tryd.prog.stopKnobs == [])) = true := by kernel_rfl
theorem k9 : ((Rows.fnLowerExponentDotTargetExactRow.inPlace == Tryd.prog.inPlace 8)) = true := by kernel_rfl
theorem k10 : ((Rows.fnLowerExponentDotTargetExactRow.unfollowed == Tryd.prog.unfollowed 8)) = true := by kernel_rfl
theorem k11 : ((Rows.fnLowerExponentDotTargetExactRow.recurses == Tryd.prog.recurses 8)) = true := by kernel_rfl
theorem k12 : ((Rows.fnLowerExponentDotTargetExactRow.named == Tryd.prog.varsNamed 8)) = true := by kernel_rfl
theorem k13 : ((Rows.fnLowerExponentDotTargetExactRow.maps == (Tryd.f8.params.toList ++ (OpenSpec.ofChange Rows.fnLowerExponentDotTargetExactSpec).bare.plain.varTypes Tryd.prog).any (Tryd.prog.mapsRec ·))) = true := by kernel_rfl
theorem k14 : ((Rows.fnLowerExponentDotTargetExactRow.ifaces == (Tryd.f8.params.toList ++ (OpenSpec.ofChange Rows.fnLowerExponentDotTargetExactSpec).bare.plain.varTypes Tryd.prog).any (Tryd.prog.ifacesRec ·))) = true := by kernel_rfl
theorem k15 : ((Rows.fnLowerExponentDotTargetExactRow.mapsOut == Tryd.prog.mapsAmong Tryd.f8.resultTypes.toList)) = true := by kernel_rfl
theorem k16 : ((Rows.fnLowerExponentDotTargetExactRow.loops == (Tryd.f8.params.toList ++ (OpenSpec.ofChange Rows.fnLowerExponentDotTargetExactSpec).bare.plain.varTypes Tryd.prog).any (Tryd.prog.loopsFrom ·))) = true := by kernel_rfl
theorem k17 : ((Rows.fnLowerExponentDotTargetExactRow.wideKeys == (Tryd.f8.params.toList ++ (OpenSpec.ofChange Rows.fnLowerExponentDotTargetExactSpec).bare.plain.varTypes Tryd.prog ++ Tryd.f8.resultTypes.toList).any (Tryd.prog.wideKeysFrom ·))) = true := by kernel_rfl
theorem k18 : ((OpenSpec.ofChange Rows.fnLowerExponentDotTargetExactSpec).bare.vars.all (Tryd.prog.varReadable ·)) = true := by kernel_rfl
theorem k19 : (Tryd.f8.resultTypes.all (fun t => Tryd.prog.readableRec t && decide (t < Tryd.prog.types.size))) = true := by kernel_rfl
theorem k20 : ((Rows.fnLowerExponentDotTargetExactRow.ifacesOut == Tryd.f8.resultTypes.toList.any (Tryd.prog.ifacesRec ·))) = true := by kernel_rfl
theorem k21 : ((Rows.fnLowerExponentDotTargetExactRow.loopsOut == Tryd.f8.resultTypes.toList.any (Tryd.prog.loopsFrom ·))) = true := by kernel_rfl
theorem k22 : ((Rows.fnLowerExponentDotTargetExactRow.plainKeys == Tryd.prog.plainKeys)) = true := by kernel_rfl
theorem k23 : (Rows.fnLowerExponentDotTargetExactRow.shortTexts.isNone) = true := by kernel_rfl
theorem k24 : (Tryd.prog.stopsHeard) = true := by kernel_rfl
theorem k25 : (Tryd.prog.mayEnter) = true := by kernel_rfl
theorem k26 : ((Rows.fnLowerExponentDotTargetExactRow.lifted == Tryd.prog.liftsFinal)) = true := by kernel_rfl
theorem k27 : ((Tryd.prog.make == some Rows.fnLowerExponentDotTargetExactRow.make)) = true := by kernel_rfl
theorem k28 : ((Rows.fnLowerExponentDotTargetExactRow.kinds == (if Rows.fnLowerExponentDotTargetExactRow.domain.isEmpty then [] else Tryd.f8.params.toList.map fun t => match Tryd.prog.underlying t with | some (.int k) => some k | _ => none))) = true := by kernel_rfl
theorem k29 : ((Rows.fnLowerExponentDotTargetExactRow.pinned == Rows.fnLowerExponentDotTargetExactRow.pinnedBy)) = true := by kernel_rfl
theorem k30 : ((Rows.fnLowerExponentDotTargetExactRow.veiled == (Tryd.f8.params.toList ++ (OpenSpec.ofChange Rows.fnLowerExponentDotTargetExactSpec).bare.plain.varTypes Tryd.prog ++ Tryd.f8.resultTypes.toList).any (Tryd.prog.veiledRec ·))) = true := by kernel_rfl
theorem k31 : (Rows.fnLowerExponentDotTargetExactRow.veiledFits Tryd.prog Tryd.f8.params.toList (Tryd.f8.params.toList ++ (OpenSpec.ofChange Rows.fnLowerExponentDotTargetExactSpec).bare.plain.varTypes Tryd.prog ++ Tryd.f8.resultTypes.toList)) = true := by kernel_rfl
set_option maxRecDepth 100000 in
theorem closed : joinedFacts Tryd.prog 8 Tryd.f8 (OpenSpec.ofChange Rows.fnLowerExponentDotTargetExactSpec).bare Rows.fnLowerExponentDotTargetExactRow = true := andT (andT (andT (andT (andT (andT (andT (andT (andT (andT (andT (andT (andT (andT (andT (andT (andT (andT (andT (andT (andT (andT (andT (andT (andT (andT (andT (andT (andT (andT (andT k0 k1) k2) k3) k4) k5) k6) k7) k8) k9) k10) k11) k12) k13) k14) k15) k16) k17) k18) k19) k20) k21) k22) k23) k24) k25) k26) k27) k28) k29) k30) k31
end Go.Proofs.YtlgefnjkoklboaaDoor.fnLowerExponentDotTargetExact
