/- The closed facts of the row of FnForOfDeclaresTempThenUsingVars, one by one. No condition. -/
import Derived.Test.YtikopplofkemlaaDoorCards
import Derived.WalkKit
import Derived.ProofKit
import Derived.JoinedCond
namespace Go.Proofs.YtikopplofkemlaaDoor.fnForOfDeclaresTempThenUsingVars
theorem andT {a b : Bool} (h : a = true) (k : b = true) : (a && b) = true := by rw [h, k]; rfl
theorem k0 : (Rows.fnForOfDeclaresTempThenUsingVarsRow.wf (OpenSpec.ofChange (OpenSpec.ofChange Rows.fnForOfDeclaresTempThenUsingVarsSpec).bare)) = true := by kernel_rfl
theorem k1 : (laidOutB Tryd.prog) = true := by kernel_rfl
theorem k2 : (mapsRowed Tryd.prog) = true := by kernel_rfl
theorem k3 : (Tryd.f4.params.all (Tryd.prog.readableRec ·)) = true := by kernel_rfl
theorem k4 : (namedTie Tryd.prog Rows.fnForOfDeclaresTempThenUsingVarsRow.named (OpenSpec.ofChange Rows.fnForOfDeclaresTempThenUsingVarsSpec).bare.vars) = true := by kernel_rfl
theorem k5 : ((Rows.fnForOfDeclaresTempThenUsingVarsRow.stops == [])) = true := by kernel_rfl
theorem k6 : ((Tryd.prog.stops == [])) = true := by kernel_rfl
theorem k7 : ((Rows.fnForOfDeclaresTempThenUsingVarsRow.knobs == [])) = true := by kernel_rfl
theorem k8 : ((Tryd.prog.stopKnobs == [])) = true := by kernel_rfl
theorem k9 : ((Rows.fnForOfDeclaresTempThenUsingVarsRow.inPlace == Tryd.prog.inPlace 4)) = true := by kernel_rfl
theorem k10 : ((Rows.fnForOfDeclaresTempThenUsingVarsRow.unfollowed == Tryd.prog.unfollowed 4)) = true := by kernel_rfl
theorem k11 : ((Rows.fnForOfDeclaresTempThenUsingVarsRow.recurses == Tryd.prog.recurses 4)) = true := by kernel_rfl
theorem k12 : ((Rows.fnForOfDeclaresTempThenUsingVarsRow.named == Tryd.prog.varsNamed 4)) = true := by kernel_rfl
theorem k13 : ((Rows.fnForOfDeclaresTempThenUsingVarsRow.maps == (Tryd.f4.params.toList ++ (OpenSpec.ofChange Rows.fnForOfDeclaresTempThenUsingVarsSpec).bare.plain.varTypes Tryd.prog).any (Tryd.prog.mapsRec ·))) = true := by kernel_rfl
theorem k14 : ((Rows.fnForOfDeclaresTempThenUsingVarsRow.ifaces == (Tryd.f4.params.toList ++ (OpenSpec.ofChange Rows.fnForOfDeclaresTempThenUsingVarsSpec).bare.plain.varTypes Tryd.prog).any (Tryd.prog.ifacesRec ·))) = true := by kernel_rfl
theorem k15 : ((Rows.fnForOfDeclaresTempThenUsingVarsRow.mapsOut == Tryd.prog.mapsAmong Tryd.f4.resultTypes.toList)) = true := by kernel_rfl
theorem k16 : ((Rows.fnForOfDeclaresTempThenUsingVarsRow.loops == (Tryd.f4.params.toList ++ (OpenSpec.ofChange Rows.fnForOfDeclaresTempThenUsingVarsSpec).bare.plain.varTypes Tryd.prog).any (Tryd.prog.loopsFrom ·))) = true := by kernel_rfl
theorem k17 : ((Rows.fnForOfDeclaresTempThenUsingVarsRow.wideKeys == (Tryd.f4.params.toList ++ (OpenSpec.ofChange Rows.fnForOfDeclaresTempThenUsingVarsSpec).bare.plain.varTypes Tryd.prog ++ Tryd.f4.resultTypes.toList).any (Tryd.prog.wideKeysFrom ·))) = true := by kernel_rfl
theorem k18 : ((OpenSpec.ofChange Rows.fnForOfDeclaresTempThenUsingVarsSpec).bare.vars.all (Tryd.prog.varReadable ·)) = true := by kernel_rfl
theorem k19 : (Tryd.f4.resultTypes.all (fun t => Tryd.prog.readableRec t && decide (t < Tryd.prog.types.size))) = true := by kernel_rfl
theorem k20 : ((Rows.fnForOfDeclaresTempThenUsingVarsRow.ifacesOut == Tryd.f4.resultTypes.toList.any (Tryd.prog.ifacesRec ·))) = true := by kernel_rfl
theorem k21 : ((Rows.fnForOfDeclaresTempThenUsingVarsRow.loopsOut == Tryd.f4.resultTypes.toList.any (Tryd.prog.loopsFrom ·))) = true := by kernel_rfl
theorem k22 : ((Rows.fnForOfDeclaresTempThenUsingVarsRow.plainKeys == Tryd.prog.plainKeys)) = true := by kernel_rfl
theorem k23 : (Rows.fnForOfDeclaresTempThenUsingVarsRow.shortTexts.isNone) = true := by kernel_rfl
theorem k24 : (Tryd.prog.stopsHeard) = true := by kernel_rfl
theorem k25 : (Tryd.prog.mayEnter) = true := by kernel_rfl
theorem k26 : ((Rows.fnForOfDeclaresTempThenUsingVarsRow.lifted == Tryd.prog.liftsFinal)) = true := by kernel_rfl
theorem k27 : ((Tryd.prog.make == some Rows.fnForOfDeclaresTempThenUsingVarsRow.make)) = true := by kernel_rfl
theorem k28 : ((Rows.fnForOfDeclaresTempThenUsingVarsRow.kinds == (if Rows.fnForOfDeclaresTempThenUsingVarsRow.domain.isEmpty then [] else Tryd.f4.params.toList.map fun t => match Tryd.prog.underlying t with | some (.int k) => some k | _ => none))) = true := by kernel_rfl
theorem k29 : ((Rows.fnForOfDeclaresTempThenUsingVarsRow.pinned == Rows.fnForOfDeclaresTempThenUsingVarsRow.pinnedBy)) = true := by kernel_rfl
theorem k30 : ((Rows.fnForOfDeclaresTempThenUsingVarsRow.veiled == (Tryd.f4.params.toList ++ (OpenSpec.ofChange Rows.fnForOfDeclaresTempThenUsingVarsSpec).bare.plain.varTypes Tryd.prog ++ Tryd.f4.resultTypes.toList).any (Tryd.prog.veiledRec ·))) = true := by kernel_rfl
theorem k31 : (Rows.fnForOfDeclaresTempThenUsingVarsRow.veiledFits Tryd.prog Tryd.f4.params.toList (Tryd.f4.params.toList ++ (OpenSpec.ofChange Rows.fnForOfDeclaresTempThenUsingVarsSpec).bare.plain.varTypes Tryd.prog ++ Tryd.f4.resultTypes.toList)) = true := by kernel_rfl
set_option maxRecDepth 100000 in
theorem closed : joinedFacts Tryd.prog 4 Tryd.f4 (OpenSpec.ofChange Rows.fnForOfDeclaresTempThenUsingVarsSpec).bare Rows.fnForOfDeclaresTempThenUsingVarsRow = true := andT (andT (andT (andT (andT (andT (andT (andT (andT (andT (andT (andT (andT (andT (andT (andT (andT (andT (andT (andT (andT (andT (andT (andT (andT (andT (andT (andT (andT (andT (andT k0 k1) k2) k3) k4) k5) k6) k7) k8) k9) k10) k11) k12) k13) k14) k15) k16) k17) k18) k19) k20) k21) k22) k23) k24) k25) k26) k27) k28) k29) k30) k31
end Go.Proofs.YtikopplofkemlaaDoor.fnForOfDeclaresTempThenUsingVars
