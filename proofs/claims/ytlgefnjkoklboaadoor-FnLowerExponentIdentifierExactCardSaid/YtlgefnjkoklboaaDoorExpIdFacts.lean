/- The closed facts of the row of FnLowerExponentIdentifierExact, one by one. No condition. -/
import Derived.Test.YtlgefnjkoklboaaDoorCards
import Derived.WalkKit
import Derived.ProofKit
import Derived.JoinedCond
namespace Go.Proofs.YtlgefnjkoklboaaDoor.fnLowerExponentIdentifierExact
theorem andT {a b : Bool} (h : a = true) (k : b = true) : (a && b) = true := by rw [h, k]; rfl
theorem k0 : (Rows.fnLowerExponentIdentifierExactRow.wf (OpenSpec.ofChange (OpenSpec.ofChange Rows.fnLowerExponentIdentifierExactSpec).bare)) = true := by kernel_rfl
theorem k1 : (laidOutB Tryd.prog) = true := by kernel_rfl
theorem k2 : (mapsRowed Tryd.prog) = true := by kernel_rfl
theorem k3 : (Tryd.f7.params.all (Tryd.prog.readableRec ·)) = true := by kernel_rfl
theorem k4 : (namedTie Tryd.prog Rows.fnLowerExponentIdentifierExactRow.named (OpenSpec.ofChange Rows.fnLowerExponentIdentifierExactSpec).bare.vars) = true := by kernel_rfl
theorem k5 : ((Rows.fnLowerExponentIdentifierExactRow.stops == [])) = true := by kernel_rfl
theorem k6 : ((Tryd.prog.stops == [])) = true := by kernel_rfl
theorem k7 : ((Rows.fnLowerExponentIdentifierExactRow.knobs == [])) = true := by kernel_rfl
theorem k8 : ((Tryd.prog.stopKnobs == [])) = true := by kernel_rfl
theorem k9 : ((Rows.fnLowerExponentIdentifierExactRow.inPlace == Tryd.prog.inPlace 7)) = true := by kernel_rfl
theorem k10 : ((Rows.fnLowerExponentIdentifierExactRow.unfollowed == Tryd.prog.unfollowed 7)) = true := by kernel_rfl
theorem k11 : ((Rows.fnLowerExponentIdentifierExactRow.recurses == Tryd.prog.recurses 7)) = true := by kernel_rfl
theorem k12 : ((Rows.fnLowerExponentIdentifierExactRow.named == Tryd.prog.varsNamed 7)) = true := by kernel_rfl
theorem k13 : ((Rows.fnLowerExponentIdentifierExactRow.maps == (Tryd.f7.params.toList ++ (OpenSpec.ofChange Rows.fnLowerExponentIdentifierExactSpec).bare.plain.varTypes Tryd.prog).any (Tryd.prog.mapsRec ·))) = true := by kernel_rfl
theorem k14 : ((Rows.fnLowerExponentIdentifierExactRow.ifaces == (Tryd.f7.params.toList ++ (OpenSpec.ofChange Rows.fnLowerExponentIdentifierExactSpec).bare.plain.varTypes Tryd.prog).any (Tryd.prog.ifacesRec ·))) = true := by kernel_rfl
theorem k15 : ((Rows.fnLowerExponentIdentifierExactRow.mapsOut == Tryd.prog.mapsAmong Tryd.f7.resultTypes.toList)) = true := by kernel_rfl
theorem k16 : ((Rows.fnLowerExponentIdentifierExactRow.loops == (Tryd.f7.params.toList ++ (OpenSpec.ofChange Rows.fnLowerExponentIdentifierExactSpec).bare.plain.varTypes Tryd.prog).any (Tryd.prog.loopsFrom ·))) = true := by kernel_rfl
theorem k17 : ((Rows.fnLowerExponentIdentifierExactRow.wideKeys == (Tryd.f7.params.toList ++ (OpenSpec.ofChange Rows.fnLowerExponentIdentifierExactSpec).bare.plain.varTypes Tryd.prog ++ Tryd.f7.resultTypes.toList).any (Tryd.prog.wideKeysFrom ·))) = true := by kernel_rfl
theorem k18 : ((OpenSpec.ofChange Rows.fnLowerExponentIdentifierExactSpec).bare.vars.all (Tryd.prog.varReadable ·)) = true := by kernel_rfl
theorem k19 : (Tryd.f7.resultTypes.all (fun t => Tryd.prog.readableRec t && decide (t < Tryd.prog.types.size))) = true := by kernel_rfl
theorem k20 : ((Rows.fnLowerExponentIdentifierExactRow.ifacesOut == Tryd.f7.resultTypes.toList.any (Tryd.prog.ifacesRec ·))) = true := by kernel_rfl
theorem k21 : ((Rows.fnLowerExponentIdentifierExactRow.loopsOut == Tryd.f7.resultTypes.toList.any (Tryd.prog.loopsFrom ·))) = true := by kernel_rfl
theorem k22 : ((Rows.fnLowerExponentIdentifierExactRow.plainKeys == Tryd.prog.plainKeys)) = true := by kernel_rfl
theorem k23 : (Rows.fnLowerExponentIdentifierExactRow.shortTexts.isNone) = true := by kernel_rfl
theorem k24 : (Tryd.prog.stopsHeard) = true := by kernel_rfl
theorem k25 : (Tryd.prog.mayEnter) = true := by kernel_rfl
theorem k26 : ((Rows.fnLowerExponentIdentifierExactRow.lifted == Tryd.prog.liftsFinal)) = true := by kernel_rfl
theorem k27 : ((Tryd.prog.make == some Rows.fnLowerExponentIdentifierExactRow.make)) = true := by kernel_rfl
theorem k28 : ((Rows.fnLowerExponentIdentifierExactRow.kinds == (if Rows.fnLowerExponentIdentifierExactRow.domain.isEmpty then [] else Tryd.f7.params.toList.map fun t => match Tryd.prog.underlying t with | some (.int k) => some k | _ => none))) = true := by kernel_rfl
theorem k29 : ((Rows.fnLowerExponentIdentifierExactRow.pinned == Rows.fnLowerExponentIdentifierExactRow.pinnedBy)) = true := by kernel_rfl
theorem k30 : ((Rows.fnLowerExponentIdentifierExactRow.veiled == (Tryd.f7.params.toList ++ (OpenSpec.ofChange Rows.fnLowerExponentIdentifierExactSpec).bare.plain.varTypes Tryd.prog ++ Tryd.f7.resultTypes.toList).any (Tryd.prog.veiledRec ·))) = true := by kernel_rfl
theorem k31 : (Rows.fnLowerExponentIdentifierExactRow.veiledFits Tryd.prog Tryd.f7.params.toList (Tryd.f7.params.toList ++ (OpenSpec.ofChange Rows.fnLowerExponentIdentifierExactSpec).bare.plain.varTypes Tryd.prog ++ Tryd.f7.resultTypes.toList)) = true := by kernel_rfl
set_option maxRecDepth 100000 in
theorem closed : joinedFacts Tryd.prog 7 Tryd.f7 (OpenSpec.ofChange Rows.fnLowerExponentIdentifierExactSpec).bare Rows.fnLowerExponentIdentifierExactRow = true := andT (andT (andT (andT (andT (andT (andT (andT (andT (andT (andT (andT (andT (andT (andT (andT (andT (andT (andT (andT (andT (andT (andT (andT (andT (andT (andT (andT (andT (andT (andT k0 k1) k2) k3) k4) k5) k6) k7) k8) k9) k10) k11) k12) k13) k14) k15) k16) k17) k18) k19) k20) k21) k22) k23) k24) k25) k26) k27) k28) k29) k30) k31
end Go.Proofs.YtlgefnjkoklboaaDoor.fnLowerExponentIdentifierExact
