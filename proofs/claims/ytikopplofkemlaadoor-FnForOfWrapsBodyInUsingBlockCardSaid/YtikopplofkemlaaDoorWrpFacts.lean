/- The closed facts of the row of FnForOfWrapsBodyInUsingBlock, one by one. No condition. -/
import Derived.Test.YtikopplofkemlaaDoorCards
import Derived.WalkKit
import Derived.ProofKit
import Derived.JoinedCond
namespace Go.Proofs.YtikopplofkemlaaDoor.fnForOfWrapsBodyInUsingBlock
theorem andT {a b : Bool} (h : a = true) (k : b = true) : (a && b) = true := by rw [h, k]; rfl
theorem k0 : (Rows.fnForOfWrapsBodyInUsingBlockRow.wf (OpenSpec.ofChange (OpenSpec.ofChange Rows.fnForOfWrapsBodyInUsingBlockSpec).bare)) = true := by kernel_rfl
theorem k1 : (laidOutB Tryd.prog) = true := by kernel_rfl
theorem k2 : (mapsRowed Tryd.prog) = true := by kernel_rfl
theorem k3 : (Tryd.f5.params.all (Tryd.prog.readableRec ·)) = true := by kernel_rfl
theorem k4 : (namedTie Tryd.prog Rows.fnForOfWrapsBodyInUsingBlockRow.named (OpenSpec.ofChange Rows.fnForOfWrapsBodyInUsingBlockSpec).bare.vars) = true := by kernel_rfl
theorem k5 : ((Rows.fnForOfWrapsBodyInUsingBlockRow.stops == [])) = true := by kernel_rfl
theorem k6 : ((Tryd.prog.stops == [])) = true := by kernel_rfl
theorem k7 : ((Rows.fnForOfWrapsBodyInUsingBlockRow.knobs == [])) = true := by kernel_rfl
theorem k8 : ((Tryd.prog.stopKnobs == [])) = true := by kernel_rfl
theorem k9 : ((Rows.fnForOfWrapsBodyInUsingBlockRow.inPlace == Tryd.prog.inPlace 5)) = true := by kernel_rfl
theorem k10 : ((Rows.fnForOfWrapsBodyInUsingBlockRow.unfollowed == Tryd.prog.unfollowed 5)) = true := by kernel_rfl
theorem k11 : ((Rows.fnForOfWrapsBodyInUsingBlockRow.recurses == Tryd.prog.recurses 5)) = true := by kernel_rfl
theorem k12 : ((Rows.fnForOfWrapsBodyInUsingBlockRow.named == Tryd.prog.varsNamed 5)) = true := by kernel_rfl
theorem k13 : ((Rows.fnForOfWrapsBodyInUsingBlockRow.maps == (Tryd.f5.params.toList ++ (OpenSpec.ofChange Rows.fnForOfWrapsBodyInUsingBlockSpec).bare.plain.varTypes Tryd.prog).any (Tryd.prog.mapsRec ·))) = true := by kernel_rfl
theorem k14 : ((Rows.fnForOfWrapsBodyInUsingBlockRow.ifaces == (Tryd.f5.params.toList ++ (OpenSpec.ofChange Rows.fnForOfWrapsBodyInUsingBlockSpec).bare.plain.varTypes Tryd.prog).any (Tryd.prog.ifacesRec ·))) = true := by kernel_rfl
theorem k15 : ((Rows.fnForOfWrapsBodyInUsingBlockRow.mapsOut == Tryd.prog.mapsAmong Tryd.f5.resultTypes.toList)) = true := by kernel_rfl
theorem k16 : ((Rows.fnForOfWrapsBodyInUsingBlockRow.loops == (Tryd.f5.params.toList ++ (OpenSpec.ofChange Rows.fnForOfWrapsBodyInUsingBlockSpec).bare.plain.varTypes Tryd.prog).any (Tryd.prog.loopsFrom ·))) = true := by kernel_rfl
theorem k17 : ((Rows.fnForOfWrapsBodyInUsingBlockRow.wideKeys == (Tryd.f5.params.toList ++ (OpenSpec.ofChange Rows.fnForOfWrapsBodyInUsingBlockSpec).bare.plain.varTypes Tryd.prog ++ Tryd.f5.resultTypes.toList).any (Tryd.prog.wideKeysFrom ·))) = true := by kernel_rfl
theorem k18 : ((OpenSpec.ofChange Rows.fnForOfWrapsBodyInUsingBlockSpec).bare.vars.all (Tryd.prog.varReadable ·)) = true := by kernel_rfl
theorem k19 : (Tryd.f5.resultTypes.all (fun t => Tryd.prog.readableRec t && decide (t < Tryd.prog.types.size))) = true := by kernel_rfl
theorem k20 : ((Rows.fnForOfWrapsBodyInUsingBlockRow.ifacesOut == Tryd.f5.resultTypes.toList.any (Tryd.prog.ifacesRec ·))) = true := by kernel_rfl
theorem k21 : ((Rows.fnForOfWrapsBodyInUsingBlockRow.loopsOut == Tryd.f5.resultTypes.toList.any (Tryd.prog.loopsFrom ·))) = true := by kernel_rfl
theorem k22 : ((Rows.fnForOfWrapsBodyInUsingBlockRow.plainKeys == Tryd.prog.plainKeys)) = true := by kernel_rfl
theorem k23 : (Rows.fnForOfWrapsBodyInUsingBlockRow.shortTexts.isNone) = true := by kernel_rfl
theorem k24 : (Tryd.prog.stopsHeard) = true := by kernel_rfl
theorem k25 : (Tryd.prog.mayEnter) = true := by kernel_rfl
theorem k26 : ((Rows.fnForOfWrapsBodyInUsingBlockRow.lifted == Tryd.prog.liftsFinal)) = true := by kernel_rfl
theorem k27 : ((Tryd.prog.make == some Rows.fnForOfWrapsBodyInUsingBlockRow.make)) = true := by kernel_rfl
theorem k28 : ((Rows.fnForOfWrapsBodyInUsingBlockRow.kinds == (if Rows.fnForOfWrapsBodyInUsingBlockRow.domain.isEmpty then [] else Tryd.f5.params.toList.map fun t => match Tryd.prog.underlying t with | some (.int k) => some k | _ => none))) = true := by kernel_rfl
theorem k29 : ((Rows.fnForOfWrapsBodyInUsingBlockRow.pinned == Rows.fnForOfWrapsBodyInUsingBlockRow.pinnedBy)) = true := by kernel_rfl
theorem k30 : ((Rows.fnForOfWrapsBodyInUsingBlockRow.veiled == (Tryd.f5.params.toList ++ (OpenSpec.ofChange Rows.fnForOfWrapsBodyInUsingBlockSpec).bare.plain.varTypes Tryd.prog ++ Tryd.f5.resultTypes.toList).any (Tryd.prog.veiledRec ·))) = true := by kernel_rfl
theorem k31 : (Rows.fnForOfWrapsBodyInUsingBlockRow.veiledFits Tryd.prog Tryd.f5.params.toList (Tryd.f5.params.toList ++ (OpenSpec.ofChange Rows.fnForOfWrapsBodyInUsingBlockSpec).bare.plain.varTypes Tryd.prog ++ Tryd.f5.resultTypes.toList)) = true := by kernel_rfl
set_option maxRecDepth 100000 in
theorem closed : joinedFacts Tryd.prog 5 Tryd.f5 (OpenSpec.ofChange Rows.fnForOfWrapsBodyInUsingBlockSpec).bare Rows.fnForOfWrapsBodyInUsingBlockRow = true := andT (andT (andT (andT (andT (andT (andT (andT (andT (andT (andT (andT (andT (andT (andT (andT (andT (andT (andT (andT (andT (andT (andT (andT (andT (andT (andT (andT (andT (andT (andT k0 k1) k2) k3) k4) k5) k6) k7) k8) k9) k10) k11) k12) k13) k14) k15) k16) k17) k18) k19) k20) k21) k22) k23) k24) k25) k26) k27) k28) k29) k30) k31
end Go.Proofs.YtikopplofkemlaaDoor.fnForOfWrapsBodyInUsingBlock
