/- The closed facts of the row of FnLowerSuperPropertyGetFreshNodes, one by one. No condition. -/
import Derived.Test.YtcbdjbjbikiaeaaDoorCards
import Derived.WalkKit
import Derived.ProofKit
import Derived.JoinedCond
namespace Go.Proofs.YtcbdjbjbikiaeaaDoor.fnLowerSuperPropertyGetFreshNodes
theorem andT {a b : Bool} (h : a = true) (k : b = true) : (a && b) = true := by rw [h, k]; rfl
theorem k0 : (Rows.fnLowerSuperPropertyGetFreshNodesRow.wf (OpenSpec.ofChange (OpenSpec.ofChange Rows.fnLowerSuperPropertyGetFreshNodesSpec).bare)) = true := by kernel_rfl
theorem k1 : (laidOutB Tryd.prog) = true := by kernel_rfl
theorem k2 : (mapsRowed Tryd.prog) = true := by kernel_rfl
theorem k3 : (Tryd.f5.params.all (Tryd.prog.readableRec ·)) = true := by kernel_rfl
theorem k4 : (namedTie Tryd.prog Rows.fnLowerSuperPropertyGetFreshNodesRow.named (OpenSpec.ofChange Rows.fnLowerSuperPropertyGetFreshNodesSpec).bare.vars) = true := by kernel_rfl
theorem k5 : ((Rows.fnLowerSuperPropertyGetFreshNodesRow.stops == [])) = true := by kernel_rfl
theorem k6 : ((Tryd.prog.stops == [])) = true := by kernel_rfl
theorem k7 : ((Rows.fnLowerSuperPropertyGetFreshNodesRow.knobs == [])) = true := by kernel_rfl
theorem k8 : ((Tryd.prog.stopKnobs == [])) = true := by kernel_rfl
theorem k9 : ((Rows.fnLowerSuperPropertyGetFreshNodesRow.inPlace == Tryd.prog.inPlace 5)) = true := by kernel_rfl
theorem k10 : ((Rows.fnLowerSuperPropertyGetFreshNodesRow.unfollowed == Tryd.prog.unfollowed 5)) = true := by kernel_rfl
theorem k11 : ((Rows.fnLowerSuperPropertyGetFreshNodesRow.recurses == Tryd.prog.recurses 5)) = true := by kernel_rfl
theorem k12 : ((Rows.fnLowerSuperPropertyGetFreshNodesRow.named == Tryd.prog.varsNamed 5)) = true := by kernel_rfl
theorem k13 : ((Rows.fnLowerSuperPropertyGetFreshNodesRow.maps == (Tryd.f5.params.toList ++ (OpenSpec.ofChange Rows.fnLowerSuperPropertyGetFreshNodesSpec).bare.plain.varTypes Tryd.prog).any (Tryd.prog.mapsRec ·))) = true := by kernel_rfl
theorem k14 : ((Rows.fnLowerSuperPropertyGetFreshNodesRow.ifaces == (Tryd.f5.params.toList ++ (OpenSpec.ofChange Rows.fnLowerSuperPropertyGetFreshNodesSpec).bare.plain.varTypes Tryd.prog).any (Tryd.prog.ifacesRec ·))) = true := by kernel_rfl
theorem k15 : ((Rows.fnLowerSuperPropertyGetFreshNodesRow.mapsOut == Tryd.prog.mapsAmong Tryd.f5.resultTypes.toList)) = true := by kernel_rfl
theorem k16 : ((Rows.fnLowerSuperPropertyGetFreshNodesRow.loops == (Tryd.f5.params.toList ++ (OpenSpec.ofChange Rows.fnLowerSuperPropertyGetFreshNodesSpec).bare.plain.varTypes Tryd.prog).any (Tryd.prog.loopsFrom ·))) = true := by kernel_rfl
theorem k17 : ((Rows.fnLowerSuperPropertyGetFreshNodesRow.wideKeys == (Tryd.f5.params.toList ++ (OpenSpec.ofChange Rows.fnLowerSuperPropertyGetFreshNodesSpec).bare.plain.varTypes Tryd.prog ++ Tryd.f5.resultTypes.toList).any (Tryd.prog.wideKeysFrom ·))) = true := by kernel_rfl
theorem k18 : ((OpenSpec.ofChange Rows.fnLowerSuperPropertyGetFreshNodesSpec).bare.vars.all (Tryd.prog.varReadable ·)) = true := by kernel_rfl
theorem k19 : (Tryd.f5.resultTypes.all (fun t => Tryd.prog.readableRec t && decide (t < Tryd.prog.types.size))) = true := by kernel_rfl
theorem k20 : ((Rows.fnLowerSuperPropertyGetFreshNodesRow.ifacesOut == Tryd.f5.resultTypes.toList.any (Tryd.prog.ifacesRec ·))) = true := by kernel_rfl
theorem k21 : ((Rows.fnLowerSuperPropertyGetFreshNodesRow.loopsOut == Tryd.f5.resultTypes.toList.any (Tryd.prog.loopsFrom ·))) = true := by kernel_rfl
theorem k22 : ((Rows.fnLowerSuperPropertyGetFreshNodesRow.plainKeys == Tryd.prog.plainKeys)) = true := by kernel_rfl
theorem k23 : (Rows.fnLowerSuperPropertyGetFreshNodesRow.shortTexts.isNone) = true := by kernel_rfl
theorem k24 : (Tryd.prog.stopsHeard) = true := by kernel_rfl
theorem k25 : (Tryd.prog.mayEnter) = true := by kernel_rfl
theorem k26 : ((Rows.fnLowerSuperPropertyGetFreshNodesRow.lifted == Tryd.prog.liftsFinal)) = true := by kernel_rfl
theorem k27 : ((Tryd.prog.make == some Rows.fnLowerSuperPropertyGetFreshNodesRow.make)) = true := by kernel_rfl
theorem k28 : ((Rows.fnLowerSuperPropertyGetFreshNodesRow.kinds == (if Rows.fnLowerSuperPropertyGetFreshNodesRow.domain.isEmpty then [] else Tryd.f5.params.toList.map fun t => match Tryd.prog.underlying t with | some (.int k) => some k | _ => none))) = true := by kernel_rfl
theorem k29 : ((Rows.fnLowerSuperPropertyGetFreshNodesRow.pinned == Rows.fnLowerSuperPropertyGetFreshNodesRow.pinnedBy)) = true := by kernel_rfl
theorem k30 : ((Rows.fnLowerSuperPropertyGetFreshNodesRow.veiled == (Tryd.f5.params.toList ++ (OpenSpec.ofChange Rows.fnLowerSuperPropertyGetFreshNodesSpec).bare.plain.varTypes Tryd.prog ++ Tryd.f5.resultTypes.toList).any (Tryd.prog.veiledRec ·))) = true := by kernel_rfl
theorem k31 : (Rows.fnLowerSuperPropertyGetFreshNodesRow.veiledFits Tryd.prog Tryd.f5.params.toList (Tryd.f5.params.toList ++ (OpenSpec.ofChange Rows.fnLowerSuperPropertyGetFreshNodesSpec).bare.plain.varTypes Tryd.prog ++ Tryd.f5.resultTypes.toList)) = true := by kernel_rfl
set_option maxRecDepth 100000 in
theorem closed : joinedFacts Tryd.prog 5 Tryd.f5 (OpenSpec.ofChange Rows.fnLowerSuperPropertyGetFreshNodesSpec).bare Rows.fnLowerSuperPropertyGetFreshNodesRow = true := andT (andT (andT (andT (andT (andT (andT (andT (andT (andT (andT (andT (andT (andT (andT (andT (andT (andT (andT (andT (andT (andT (andT (andT (andT (andT (andT (andT (andT (andT (andT k0 k1) k2) k3) k4) k5) k6) k7) k8) k9) k10) k11) k12) k13) k14) k15) k16) k17) k18) k19) k20) k21) k22) k23) k24) k25) k26) k27) k28) k29) k30) k31
end Go.Proofs.YtcbdjbjbikiaeaaDoor.fnLowerSuperPropertyGetFreshNodes
