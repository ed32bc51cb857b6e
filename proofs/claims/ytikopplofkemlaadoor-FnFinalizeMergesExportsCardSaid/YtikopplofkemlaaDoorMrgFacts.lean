/- The closed facts of the row of FnFinalizeMergesExports, one by one. No condition. -/
import Derived.Test.YtikopplofkemlaaDoorCards
import Derived.WalkKit
import Derived.ProofKit
import Derived.JoinedCond
namespace Go.Proofs.YtikopplofkemlaaDoor.fnFinalizeMergesExports
theorem andT {a b : Bool} (h : a = true) (k : b = true) : (a && b) = true := by rw [h, k]; rfl
theorem k0 : (Rows.fnFinalizeMergesExportsRow.wf (OpenSpec.ofChange (OpenSpec.ofChange Rows.fnFinalizeMergesExportsSpec).bare)) = true := by kernel_rfl
theorem k1 : (laidOutB Tryd.prog) = true := by kernel_rfl
theorem k2 : (mapsRowed Tryd.prog) = true := by kernel_rfl
theorem k3 : (Tryd.f3.params.all (Tryd.prog.readableRec ·)) = true := by kernel_rfl
theorem k4 : (namedTie Tryd.prog Rows.fnFinalizeMergesExportsRow.named (OpenSpec.ofChange Rows.fnFinalizeMergesExportsSpec).bare.vars) = true := by kernel_rfl
theorem k5 : ((Rows.fnFinalizeMergesExportsRow.stops == [])) = true := by kernel_rfl
theorem k6 : ((Tryd.prog.stops == [])) = true := by kernel_rfl
theorem k7 : ((Rows.fnFinalizeMergesExportsRow.knobs == [])) = true := by kernel_rfl
theorem k8 : ((Tryd.prog.stopKnobs == [])) = true := by kernel_rfl
theorem k9 : ((Rows.fnFinalizeMergesExportsRow.inPlace == Tryd.prog.inPlace 3)) = true := by kernel_rfl
theorem k10 : ((Rows.fnFinalizeMergesExportsRow.unfollowed == Tryd.prog.unfollowed 3)) = true := by kernel_rfl
theorem k11 : ((Rows.fnFinalizeMergesExportsRow.recurses == Tryd.prog.recurses 3)) = true := by kernel_rfl
theorem k12 : ((Rows.fnFinalizeMergesExportsRow.named == Tryd.prog.varsNamed 3)) = true := by kernel_rfl
theorem k13 : ((Rows.fnFinalizeMergesExportsRow.maps == (Tryd.f3.params.toList ++ (OpenSpec.ofChange Rows.fnFinalizeMergesExportsSpec).bare.plain.varTypes Tryd.prog).any (Tryd.prog.mapsRec ·))) = true := by kernel_rfl
theorem k14 : ((Rows.fnFinalizeMergesExportsRow.ifaces == (Tryd.f3.params.toList ++ (OpenSpec.ofChange Rows.fnFinalizeMergesExportsSpec).bare.plain.varTypes Tryd.prog).any (Tryd.prog.ifacesRec ·))) = true := by kernel_rfl
theorem k15 : ((Rows.fnFinalizeMergesExportsRow.mapsOut == Tryd.prog.mapsAmong Tryd.f3.resultTypes.toList)) = true := by kernel_rfl
theorem k16 : ((Rows.fnFinalizeMergesExportsRow.loops == (Tryd.f3.params.toList ++ (OpenSpec.ofChange Rows.fnFinalizeMergesExportsSpec).bare.plain.varTypes Tryd.prog).any (Tryd.prog.loopsFrom ·))) = true := by kernel_rfl
theorem k17 : ((Rows.fnFinalizeMergesExportsRow.wideKeys == (Tryd.f3.params.toList ++ (OpenSpec.ofChange Rows.fnFinalizeMergesExportsSpec).bare.plain.varTypes Tryd.prog ++ Tryd.f3.resultTypes.toList).any (Tryd.prog.wideKeysFrom ·))) = true := by kernel_rfl
theorem k18 : ((OpenSpec.ofChange Rows.fnFinalizeMergesExportsSpec).bare.vars.all (Tryd.prog.varReadable ·)) = true := by kernel_rfl
theorem k19 : (Tryd.f3.resultTypes.all (fun t => Tryd.prog.readableRec t && decide (t < Tryd.prog.types.size))) = true := by kernel_rfl
theorem k20 : ((Rows.fnFinalizeMergesExportsRow.ifacesOut == Tryd.f3.resultTypes.toList.any (Tryd.prog.ifacesRec ·))) = true := by kernel_rfl
theorem k21 : ((Rows.fnFinalizeMergesExportsRow.loopsOut == Tryd.f3.resultTypes.toList.any (Tryd.prog.loopsFrom ·))) = true := by kernel_rfl
theorem k22 : ((Rows.fnFinalizeMergesExportsRow.plainKeys == Tryd.prog.plainKeys)) = true := by kernel_rfl
theorem k23 : (Rows.fnFinalizeMergesExportsRow.shortTexts.isNone) = true := by kernel_rfl
theorem k24 : (Tryd.prog.stopsHeard) = true := by kernel_rfl
theorem k25 : (Tryd.prog.mayEnter) = true := by kernel_rfl
theorem k26 : ((Rows.fnFinalizeMergesExportsRow.lifted == Tryd.prog.liftsFinal)) = true := by kernel_rfl
theorem k27 : ((Tryd.prog.make == some Rows.fnFinalizeMergesExportsRow.make)) = true := by kernel_rfl
theorem k28 : ((Rows.fnFinalizeMergesExportsRow.kinds == (if Rows.fnFinalizeMergesExportsRow.domain.isEmpty then [] else Tryd.f3.params.toList.map fun t => match Tryd.prog.underlying t with | some (.int k) => some k | _ => none))) = true := by kernel_rfl
theorem k29 : ((Rows.fnFinalizeMergesExportsRow.pinned == Rows.fnFinalizeMergesExportsRow.pinnedBy)) = true := by kernel_rfl
theorem k30 : ((Rows.fnFinalizeMergesExportsRow.veiled == (Tryd.f3.params.toList ++ (OpenSpec.ofChange Rows.fnFinalizeMergesExportsSpec).bare.plain.varTypes Tryd.prog ++ Tryd.f3.resultTypes.toList).any (Tryd.prog.veiledRec ·))) = true := by kernel_rfl
theorem k31 : (Rows.fnFinalizeMergesExportsRow.veiledFits Tryd.prog Tryd.f3.params.toList (Tryd.f3.params.toList ++ (OpenSpec.ofChange Rows.fnFinalizeMergesExportsSpec).bare.plain.varTypes Tryd.prog ++ Tryd.f3.resultTypes.toList)) = true := by kernel_rfl
set_option maxRecDepth 100000 in
theorem closed : joinedFacts Tryd.prog 3 Tryd.f3 (OpenSpec.ofChange Rows.fnFinalizeMergesExportsSpec).bare Rows.fnFinalizeMergesExportsRow = true := andT (andT (andT (andT (andT (andT (andT (andT (andT (andT (andT (andT (andT (andT (andT (andT (andT (andT (andT (andT (andT (andT (andT (andT (andT (andT (andT (andT (andT (andT (andT k0 k1) k2) k3) k4) k5) k6) k7) k8) k9) k10) k11) k12) k13) k14) k15) k16) k17) k18) k19) k20) k21) k22) k23) k24) k25) k26) k27) k28) k29) k30) k31
end Go.Proofs.YtikopplofkemlaaDoor.fnFinalizeMergesExports
