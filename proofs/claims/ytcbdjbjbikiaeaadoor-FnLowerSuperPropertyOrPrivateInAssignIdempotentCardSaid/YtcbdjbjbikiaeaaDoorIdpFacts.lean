/- The closed facts of the row of FnLowerSuperPropertyOrPrivateInAssignIdempotent, one by one. No condition. -/
import Derived.Test.YtcbdjbjbikiaeaaDoorCards
import Derived.WalkKit
import Derived.ProofKit
import Derived.JoinedCond
namespace Go.Proofs.YtcbdjbjbikiaeaaDoor.fnLowerSuperPropertyOrPrivateInAssignIdempotent
theorem andT {a b : Bool} (h : a = true) (k : b = true) : (a && b) = true := by rw [h, k]; rfl
theorem k0 : (Rows.fnLowerSuperPropertyOrPrivateInAssignIdempotentRow.wf (OpenSpec.ofChange (OpenSpec.ofChange Rows.fnLowerSuperPropertyOrPrivateInAssignIdempotentSpec).bare)) = true := by kernel_rfl
theorem k1 : (laidOutB Tryd.prog) = true := by kernel_rfl
theorem k2 : (mapsRowed Tryd.prog) = true := by kernel_rfl
theorem k3 : (Tryd.f6.params.all (Tryd.prog.readableRec ·)) = true := by kernel_rfl
theorem k4 : (namedTie Tryd.prog Rows.fnLowerSuperPropertyOrPrivateInAssignIdempotentRow.named (OpenSpec.ofChange Rows.fnLowerSuperPropertyOrPrivateInAssignIdempotentSpec).bare.vars) = true := by kernel_rfl
theorem k5 : ((Rows.fnLowerSuperPropertyOrPrivateInAssignIdempotentRow.stops == [])) = true := by kernel_rfl
theorem k6 : ((Tryd.prog.stops == [])) = true := by kernel_rfl
theorem k7 : ((Rows.fnLowerSuperPropertyOrPrivateInAssignIdempotentRow.knobs == [])) = true := by kernel_rfl
theorem k8 : ((Tryd.prog.stopKnobs == [])) = true := by kernel_rfl
theorem k9 : ((Rows.fnLowerSuperPropertyOrPrivateInAssignIdempotentRow.inPlace == Tryd.prog.inPlace 6)) = true := by kernel_rfl
theorem k10 : ((Rows.fnLowerSuperPropertyOrPrivateInAssignIdempotentRow.unfollowed == Tryd.prog.unfollowed 6)) = true := by kernel_rfl
theorem k11 : ((Rows.fnLowerSuperPropertyOrPrivateInAssignIdempotentRow.recurses == Tryd.prog.recurses 6)) = true := by kernel_rfl
theorem k12 : ((Rows.fnLowerSuperPropertyOrPrivateInAssignIdempotentRow.named == Tryd.prog.varsNamed 6)) = true := by kernel_rfl
theorem k13 : ((Rows.fnLowerSuperPropertyOrPrivateInAssignIdempotentRow.maps == (Tryd.f6.params.toList ++ (OpenSpec.ofChange Rows.fnLowerSuperPropertyOrPrivateInAssignIdempotentSpec).bare.plain.varTypes Tryd.prog).any (Tryd.prog.mapsRec ·))) = true := by kernel_rfl
theorem k14 : ((Rows.fnLowerSuperPropertyOrPrivateInAssignIdempotentRow.ifaces == (Tryd.f6.params.toList ++ (OpenSpec.ofChange Rows.fnLowerSuperPropertyOrPrivateInAssignIdempotentSpec).bare.plain.varTypes Tryd.prog).any (Tryd.prog.ifacesRec ·))) = true := by kernel_rfl
theorem k15 : ((Rows.fnLowerSuperPropertyOrPrivateInAssignIdempotentRow.mapsOut == Tryd.prog.mapsAmong Tryd.f6.resultTypes.toList)) = true := by kernel_rfl
theorem k16 : ((Rows.fnLowerSuperPropertyOrPrivateInAssignIdempotentRow.loops == (Tryd.f6.params.toList ++ (OpenSpec.ofChange Rows.fnLowerSuperPropertyOrPrivateInAssignIdempotentSpec).bare.plain.varTypes Tryd.prog).any (Tryd.prog.loopsFrom ·))) = true := by kernel_rfl
theorem k17 : ((Rows.fnLowerSuperPropertyOrPrivateInAssignIdempotentRow.wideKeys == (Tryd.f6.params.toList ++ (OpenSpec.ofChange Rows.fnLowerSuperPropertyOrPrivateInAssignIdempotentSpec).bare.plain.varTypes Tryd.prog ++ Tryd.f6.resultTypes.toList).any (Tryd.prog.wideKeysFrom ·))) = true := by kernel_rfl
theorem k18 : ((OpenSpec.ofChange Rows.fnLowerSuperPropertyOrPrivateInAssignIdempotentSpec).bare.vars.all (Tryd.prog.varReadable ·)) = true := by kernel_rfl
theorem k19 : (Tryd.f6.resultTypes.all (fun t => Tryd.prog.readableRec t && decide (t < Tryd.prog.types.size))) = true := by kernel_rfl
theorem k20 : ((Rows.fnLowerSuperPropertyOrPrivateInAssignIdempotentRow.ifacesOut == Tryd.f6.resultTypes.toList.any (Tryd.prog.ifacesRec ·))) = true := by kernel_rfl
theorem k21 : ((Rows.fnLowerSuperPropertyOrPrivateInAssignIdempotentRow.loopsOut == Tryd.f6.resultTypes.toList.any (Tryd.prog.loopsFrom ·))) = true := by kernel_rfl
theorem k22 : ((Rows.fnLowerSuperPropertyOrPrivateInAssignIdempotentRow.plainKeys == Tryd.prog.plainKeys)) = true := by kernel_rfl
theorem k23 : (Rows.fnLowerSuperPropertyOrPrivateInAssignIdempotentRow.shortTexts.isNone) = true := by kernel_rfl
theorem k24 : (Tryd.prog.stopsHeard) = true := by kernel_rfl
theorem k25 : (Tryd.prog.mayEnter) = true := by kernel_rfl
theorem k26 : ((Rows.fnLowerSuperPropertyOrPrivateInAssignIdempotentRow.lifted == Tryd.prog.liftsFinal)) = true := by kernel_rfl
theorem k27 : ((Tryd.prog.make == some Rows.fnLowerSuperPropertyOrPrivateInAssignIdempotentRow.make)) = true := by kernel_rfl
theorem k28 : ((Rows.fnLowerSuperPropertyOrPrivateInAssignIdempotentRow.kinds == (if Rows.fnLowerSuperPropertyOrPrivateInAssignIdempotentRow.domain.isEmpty then [] else Tryd.f6.params.toList.map fun t => match Tryd.prog.underlying t with | some (.int k) => some k | _ => none))) = true := by kernel_rfl
theorem k29 : ((Rows.fnLowerSuperPropertyOrPrivateInAssignIdempotentRow.pinned == Rows.fnLowerSuperPropertyOrPrivateInAssignIdempotentRow.pinnedBy)) = true := by kernel_rfl
theorem k30 : ((Rows.fnLowerSuperPropertyOrPrivateInAssignIdempotentRow.veiled == (Tryd.f6.params.toList ++ (OpenSpec.ofChange Rows.fnLowerSuperPropertyOrPrivateInAssignIdempotentSpec).bare.plain.varTypes Tryd.prog ++ Tryd.f6.resultTypes.toList).any (Tryd.prog.veiledRec ·))) = true := by kernel_rfl
theorem k31 : (Rows.fnLowerSuperPropertyOrPrivateInAssignIdempotentRow.veiledFits Tryd.prog Tryd.f6.params.toList (Tryd.f6.params.toList ++ (OpenSpec.ofChange Rows.fnLowerSuperPropertyOrPrivateInAssignIdempotentSpec).bare.plain.varTypes Tryd.prog ++ Tryd.f6.resultTypes.toList)) = true := by kernel_rfl
set_option maxRecDepth 100000 in
theorem closed : joinedFacts Tryd.prog 6 Tryd.f6 (OpenSpec.ofChange Rows.fnLowerSuperPropertyOrPrivateInAssignIdempotentSpec).bare Rows.fnLowerSuperPropertyOrPrivateInAssignIdempotentRow = true := andT (andT (andT (andT (andT (andT (andT (andT (andT (andT (andT (andT (andT (andT (andT (andT (andT (andT (andT (andT (andT (andT (andT (andT (andT (andT (andT (andT (andT (andT (andT k0 k1) k2) k3) k4) k5) k6) k7) k8) k9) k10) k11) k12) k13) k14) k15) k16) k17) k18) k19) k20) k21) k22) k23) k24) k25) k26) k27) k28) k29) k30) k31
end Go.Proofs.YtcbdjbjbikiaeaaDoor.fnLowerSuperPropertyOrPrivateInAssignIdempotent
