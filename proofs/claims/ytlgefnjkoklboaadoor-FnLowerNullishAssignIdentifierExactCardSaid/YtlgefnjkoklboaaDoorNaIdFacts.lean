/- The closed facts of the row of FnLowerNullishAssignIdentifierExact, one by one. No condition. -/
import Derived.Test.YtlgefnjkoklboaaDoorCards
import Derived.WalkKit
import Derived.ProofKit
import Derived.JoinedCond
namespace Go.Proofs.YtlgefnjkoklboaaDoor.fnLowerNullishAssignIdentifierExact
theorem andT {a b : Bool} (h : a = true) (k : b = true) : (a && b) = true := by rw [h, k]; rfl
theorem k0 : (Rows.fnLowerNullishAssignIdentifierExactRow.wf (OpenSpec.ofChange (OpenSpec.ofChange Rows.fnLowerNullishAssignIdentifierExactSpec).bare)) = true := by kernel_rfl
theorem k1 : (laidOutB Tryd.prog) = true := by kernel_rfl
theorem k2 : (mapsRowed Tryd.prog) = true := by kernel_rfl
theorem k3 : (Tryd.f9.params.all (Tryd.prog.readableRec ·)) = true := by kernel_rfl
theorem k4 : (namedTie Tryd.prog Rows.fnLowerNullishAssignIdentifierExactRow.named (OpenSpec.ofChange Rows.fnLowerNullishAssignIdentifierExactSpec).bare.vars) = true := by kernel_rfl
theorem k5 : ((Rows.fnLowerNullishAssignIdentifierExactRow.stops == [])) = true := by kernel_rfl
theorem k6 : ((Tryd.prog.stops == [])) = true := by kernel_rfl
theorem k7 : ((Rows.fnLowerNullishAssignIdentifierExactRow.knobs == [])) = true := by kernel_rfl
theorem k8 : ((Tryd.prog.stopKnobs == [])) = true := by kernel_rfl
theorem k9 : ((Rows.fnLowerNullishAssignIdentifierExactRow.inPlace == Tryd.prog.inPlace 9)) = true := by kernel_rfl
theorem k10 : ((Rows.fnLowerNullishAssignIdentifierExactRow.unfollowed == Tryd.prog.unfollowed 9)) = true := by kernel_rfl
theorem k11 : ((Rows.fnLowerNullishAssignIdentifierExactRow.recurses == Tryd.prog.recurses 9)) = true := by kernel_rfl
theorem k12 : ((Rows.fnLowerNullishAssignIdentifierExactRow.named == Tryd.prog.varsNamed 9)) = true := by kernel_rfl
theorem k13 : ((Rows.fnLowerNullishAssignIdentifierExactRow.maps == (Tryd.f9.params.toList ++ (OpenSpec.ofChange Rows.fnLowerNullishAssignIdentifierExactSpec).bare.plain.varTypes Tryd.prog).any (Tryd.prog.mapsRec ·))) = true := by kernel_rfl
theorem k14 : ((Rows.fnLowerNullishAssignIdentifierExactRow.ifaces == (Tryd.f9.params.toList ++ (OpenSpec.ofChange Rows.fnLowerNullishAssignIdentifierExactSpec).bare.plain.varTypes Tryd.prog).any (Tryd.prog.ifacesRec ·))) = true := by kernel_rfl
theorem k15 : ((Rows.fnLowerNullishAssignIdentifierExactRow.mapsOut == Tryd.prog.mapsAmong Tryd.f9.resultTypes.toList)) = true := by kernel_rfl
theorem k16 : ((Rows.fnLowerNullishAssignIdentifierExactRow.loops == (Tryd.f9.params.toList ++ (OpenSpec.ofChange Rows.fnLowerNullishAssignIdentifierExactSpec).bare.plain.varTypes Tryd.prog).any (Tryd.prog.loopsFrom ·))) = true := by kernel_rfl
theorem k17 : ((Rows.fnLowerNullishAssignIdentifierExactRow.wideKeys == (Tryd.f9.params.toList ++ (OpenSpec.ofChange Rows.fnLowerNullishAssignIdentifierExactSpec).bare.plain.varTypes Tryd.prog ++ Tryd.f9.resultTypes.toList).any (Tryd.prog.wideKeysFrom ·))) = true := by kernel_rfl
theorem k18 : ((OpenSpec.ofChange Rows.fnLowerNullishAssignIdentifierExactSpec).bare.vars.all (Tryd.prog.varReadable ·)) = true := by kernel_rfl
theorem k19 : (Tryd.f9.resultTypes.all (fun t => Tryd.prog.readableRec t && decide (t < Tryd.prog.types.size))) = true := by kernel_rfl
theorem k20 : ((Rows.fnLowerNullishAssignIdentifierExactRow.ifacesOut == Tryd.f9.resultTypes.toList.any (Tryd.prog.ifacesRec ·))) = true := by kernel_rfl
theorem k21 : ((Rows.fnLowerNullishAssignIdentifierExactRow.loopsOut == Tryd.f9.resultTypes.toList.any (Tryd.prog.loopsFrom ·))) = true := by kernel_rfl
theorem k22 : ((Rows.fnLowerNullishAssignIdentifierExactRow.plainKeys == Tryd.prog.plainKeys)) = true := by kernel_rfl
theorem k23 : (Rows.fnLowerNullishAssignIdentifierExactRow.shortTexts.isNone) = true := by kernel_rfl
theorem k24 : (Tryd.prog.stopsHeard) = true := by kernel_rfl
theorem k25 : (Tryd.prog.mayEnter) = true := by kernel_rfl
theorem k26 : ((Rows.fnLowerNullishAssignIdentifierExactRow.lifted == Tryd.prog.liftsFinal)) = true := by kernel_rfl
theorem k27 : ((Tryd.prog.make == some Rows.fnLowerNullishAssignIdentifierExactRow.make)) = true := by kernel_rfl
theorem k28 : ((Rows.fnLowerNullishAssignIdentifierExactRow.kinds == (if Rows.fnLowerNullishAssignIdentifierExactRow.domain.isEmpty then [] else Tryd.f9.params.toList.map fun t => match Tryd.prog.underlying t with | some (.int k) => some k | _ => none))) = true := by kernel_rfl
theorem k29 : ((Rows.fnLowerNullishAssignIdentifierExactRow.pinned == Rows.fnLowerNullishAssignIdentifierExactRow.pinnedBy)) = true := by kernel_rfl
theorem k30 : ((Rows.fnLowerNullishAssignIdentifierExactRow.veiled == (Tryd.f9.params.toList ++ (OpenSpec.ofChange Rows.fnLowerNullishAssignIdentifierExactSpec).bare.plain.varTypes Tryd.prog ++ Tryd.f9.resultTypes.toList).any (Tryd.prog.veiledRec ·))) = true := by kernel_rfl
theorem k31 : (Rows.fnLowerNullishAssignIdentifierExactRow.veiledFits Tryd.prog Tryd.f9.params.toList (Tryd.f9.params.toList ++ (OpenSpec.ofChange Rows.fnLowerNullishAssignIdentifierExactSpec).bare.plain.varTypes Tryd.prog ++ Tryd.f9.resultTypes.toList)) = true := by kernel_rfl
set_option maxRecDepth 100000 in
theorem closed : joinedFacts Tryd.prog 9 Tryd.f9 (OpenSpec.ofChange Rows.fnLowerNullishAssignIdentifierExactSpec).bare Rows.fnLowerNullishAssignIdentifierExactRow = true := andT (andT (andT (andT (andT (andT (andT (andT (andT (andT (andT (andT (andT (andT (andT (andT (andT (andT (andT (andT (andT (andT (andT (andT (andT (andT (andT (andT (andT (andT (andT k0 k1) k2) k3) k4) k5) k6) k7) k8) k9) k10) k11) k12) k13) k14) k15) k16) k17) k18) k19) k20) k21) k22) k23) k24) k25) k26) k27) k28) k29) k30) k31
end Go.Proofs.YtlgefnjkoklboaaDoor.fnLowerNullishAssignIdentifierExact
