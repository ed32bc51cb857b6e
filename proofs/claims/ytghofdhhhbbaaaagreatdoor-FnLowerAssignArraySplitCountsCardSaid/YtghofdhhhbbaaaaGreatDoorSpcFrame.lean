/-
  Proved: the card of the law n011_247.FnLowerAssignArraySplitCounts: it returns true for every input of its parameters; the package-level variables that its row lists start as the program's text lays them. No other condition.
  The frame of this text follows the kit's toy of a law over a package-level table; the walk lies in YtghofdhhhbbaaaaGreatDoorSpc.
-/
import Derived.Test.YtghofdhhhbbaaaaGreatDoorCards
import Derived.Test.YtghofdhhhbbaaaaGreatDoorTie
import Derived.Test.YtghofdhhhbbaaaaGreatDoorBase
import Derived.Test.YtghofdhhhbbaaaaGreatDoorTold
import Derived.Test.YtghofdhhhbbaaaaGreatDoorSpcFacts
import Derived.WalkKit
import Derived.ProofKit
import Derived.OpenShut
import Derived.ShutString
import Derived.ChangeOld
import Derived.Below
import Derived.Laws.Cover2
import Derived.OpenVars
import Derived.Deep.DeepHandedRow
import Derived.Deep.Grids
import Derived.SliceStrings
namespace Go.Proofs.YtghofdhhhbbaaaaGreatDoor.fnLowerAssignArraySplitCounts
open Go.ChangeShapes Go.WideShapes Go.ChangeAt Go.RowKit
open Go.ChangeMaps (open_string shut_string)
set_option linter.unusedVariables false

theorem own : ownKnob Tryz.prog.godebug = none := by kernel_rfl
theorem laidOut : laidOutB Tryz.prog = true := by kernel_rfl


/-- What the walk is to show. -/
def WalkT : Prop := ∀ (a0 : Int) (a1 : Int) (a2 : Bool) (a3 : Bool) (w : World) (hg0_0 : w.cell? ⟨0, 0, none⟩ = some (.int .u32 4294967295)) (hg0_1 : w.cell? ⟨0, 1, none⟩ = some (.int .u32 4294967295)) (w0 : (Lit.int .i64 a0).wf = true) (w1 : (Lit.int .i64 a1).wf = true),
    Calls Tryz.prog 3 #[.int .i64 a0, .int .i64 a1, .bool a2, .bool a3] w fun e w' => e = .returned (.bool true) ∧ Below w.heap.size w w'


set_option maxRecDepth 100000 in
theorem contract (walk : WalkT) (H : Type) (enc : TypeId × Value → H) (W : World) (base : Nat) (args : Array Value) (ds gs : List (DataW H)) (before : List MemPlace)
    (hval : ∀ (j : Nat) t v, Tryz.f3.params[j]? = some t → args[j]? = some v → Value.okWide Tryz.prog W .any base t v)
    (hW : DataW.Whole enc Tryz.prog Tryz.f3.params.toList Rows.fnLowerAssignArraySplitCountsSpec.vars false W args.toList ds gs before) (hL : laidMetH Tryz.prog Rows.fnLowerAssignArraySplitCountsRow.laid W) :
    Calls Tryz.prog 3 args W fun e W' => ∃ v, e = .returned v ∧ Rows.fnLowerAssignArraySplitCountsSpec.post enc Tryz.prog Tryz.f3 false true false false W args v W' := by
  have hW' := hW
  obtain ⟨p, q, hA0, hV, rfl, hfz, hnd⟩ := hW
  have hA : DataW.TrodAll enc Tryz.prog W 0 (fun _ => true) true Tryz.f3.params.toList args.toList ds p := hA0
  rw [Tryz.params3] at hA hval
  obtain ⟨v0, vs0, d0, ds0, p0, q0, hargs, rfl, rfl, h0, r0⟩ := trodAll_cons hA
  obtain ⟨v1, vs1, d1, ds1, p1, q1, rfl, rfl, rfl, h1, r1⟩ := trodAll_cons r0
  obtain ⟨v2, vs2, d2, ds2, p2, q2, rfl, rfl, rfl, h2, r2⟩ := trodAll_cons r1
  obtain ⟨v3, vs3, d3, ds3, p3, q3, rfl, rfl, rfl, h3, r3⟩ := trodAll_cons r2
  obtain ⟨rfl, rfl, rfl⟩ := trodAll_nil r3
  obtain rfl : args = #[v0, v1, v2, v3] := by cases args; simp_all
  obtain ⟨a0, rfl, rfl, rfl, w0⟩ := open_int Tryz.underlying3 (hval 0 3 v0 rfl rfl) h0
  obtain ⟨a1, rfl, rfl, rfl, w1⟩ := open_int Tryz.underlying3 (hval 1 3 v1 rfl rfl) h1
  obtain ⟨a2, rfl, rfl, rfl⟩ := open_bool Tryz.underlying4 (hval 2 4 v2 rfl rfl) h2
  obtain ⟨a3, rfl, rfl, rfl⟩ := open_bool Tryz.underlying4 (hval 3 4 v3 rfl rfl) h3
  obtain ⟨hg0_0, hg0_1⟩ : W.cell? ⟨0, 0, none⟩ = some (.int .u32 4294967295) ∧ W.cell? ⟨0, 1, none⟩ = some (.int .u32 4294967295) := by
    rw [MakeChecks.laidMetH_plain _ _ _ (by kernel_rfl)] at hL
    exact Use.refOfLaid hL
  obtain ⟨g0, rfl⟩ : ∃ g0, gs = [g0] := by
    have hV0 : DataW.TrodVars enc Tryz.prog W (fun _ => true) ["github.com/evanw/esbuild/internal/ast.InvalidRef"] gs q := hV
    cases gs with
    | nil => exact hV0.elim
    | cons g0 gs =>
      obtain ⟨_, _, _, _, _, _, _, _, _, _, hV1, _⟩ := hV0
      cases gs with
      | nil => exact ⟨g0, rfl⟩
      | cons _ _ => exact hV1.elim
  clear hA0
  refine (walk a0 a1 a2 a3 W hg0_0 hg0_1 w0 w1).mono fun e W' ⟨he, bel⟩ => ?_
  subst he
  exact ⟨_, rfl, _, _, _, [], _, q, hW', trodAll_mk1 (shut_bool Tryz.underlying4 _), (trodAll_cons_mk (shut_int Tryz.underlying3 w0) (trodAll_cons_mk (shut_int Tryz.underlying3 w1) (trodAll_cons_mk (shut_bool Tryz.underlying4 _) (trodAll_cons_mk (shut_bool Tryz.underlying4 _) trodAll_mk0)))), (bel.trodVars laidOut (by kernel_rfl) hV), bel.frame _, fun h => by cases h⟩

/-- A world for the witness: the settled one, each listed variable holding what the program's text lays. -/
noncomputable def laidWorld (os : Os) : World :=
  { World.holding Tryz.prog os ⟨#[], #[], []⟩ with heap := ((World.holding Tryz.prog os ⟨#[], #[], []⟩).heap.modify 0 fun
      | .cells _ t frozen => .cells #[.int .u32 4294967295, .int .u32 4294967295] t frozen
      | o => o) }

theorem laid_met (os : Os) : laidMet Tryz.prog Rows.fnLowerAssignArraySplitCountsRow.laid ((laidWorld os).forCall (fun _ _ => 0) ⟨#[], #[.int .i64 0, .int .i64 0, .bool false, .bool false], []⟩).memory :=
  laidMet_of_run' 8 (by kernel_rfl) (by kernel_rfl)
theorem reads (os : Os) {H : Type} (enc : TypeId × Value → H) : ∃ ds gs places, DataW.whole enc Tryz.prog ((laidWorld os).forCall (fun _ _ => 0) ⟨#[], #[.int .i64 0, .int .i64 0, .bool false, .bool false], []⟩).memory Tryz.f3.params.toList Rows.fnLowerAssignArraySplitCountsSpec.vars false (#[.int .i64 0, .int .i64 0, .bool false, .bool false] : Array Value).toList 8 = some (ds, gs, places) :=
  (fun h => by obtain ⟨⟨ds, gs, places⟩, hx⟩ := Option.isSome_iff_exists.1 h; exact ⟨ds, gs, places, hx⟩) (show (DataW.whole enc Tryz.prog ((laidWorld os).forCall (fun _ _ => 0) ⟨#[], #[.int .i64 0, .int .i64 0, .bool false, .bool false], []⟩).memory Tryz.f3.params.toList Rows.fnLowerAssignArraySplitCountsSpec.vars false (#[.int .i64 0, .int .i64 0, .bool false, .bool false] : Array Value).toList 8).isSome = true by kernel_rfl)
set_option maxRecDepth 100000 in
theorem pre (os : Os) (H : Type) (enc : TypeId × Value → H) : (OpenSpec.ofChange Rows.fnLowerAssignArraySplitCountsSpec).preRow enc Tryz.prog Tryz.f3 Rows.fnLowerAssignArraySplitCountsRow.domain false Rows.fnLowerAssignArraySplitCountsRow.laid ((laidWorld os).forCall (fun _ _ => 0) ⟨#[], #[.int .i64 0, .int .i64 0, .bool false, .bool false], []⟩).memory #[.int .i64 0, .int .i64 0, .bool false, .bool false] := by
  obtain ⟨ds, gs, places, hx⟩ := reads os enc
  exact OpenSpec.preRow_of_cond 8 hx (by kernel_rfl) (fun k hk => by cases hk) (by kernel_rfl) (laid_met os)

set_option maxRecDepth 100000 in
theorem lifted (walk : WalkT) (os : Os) (started : os.Started) (H : Type) (enc : TypeId × Value → H) (F : Stop.Interp) :
    ReturnsInHanded {} Tryz.checked os 3 .any ((OpenSpec.ofChange Rows.fnLowerAssignArraySplitCountsSpec).preRow enc Tryz.prog Tryz.f3 Rows.fnLowerAssignArraySplitCountsRow.domain false Rows.fnLowerAssignArraySplitCountsRow.laid) (((OpenSpec.ofChange Rows.fnLowerAssignArraySplitCountsSpec).at F).post enc Tryz.prog Tryz.f3 false true false false) := by
  refine returnsInHanded_of_row (C := Tryz.checked) (s := OpenSpec.ofChange Rows.fnLowerAssignArraySplitCountsSpec) own started (by kernel_rfl) Tryz.func3
    (witness_row_at (enc := enc) (C := Tryz.checked) false (laidWorld os) #[.int .i64 0, .int .i64 0, .bool false, .bool false] rfl (by kernel_rfl) (by kernel_rfl) (by kernel_rfl) (pre os H enc)) ?_
  intro W base args ds gs before hval hW _ _ _ hL _ _
  exact contract walk H enc W base args ds gs before hval hW hL

set_option maxRecDepth 100000 in
theorem said (walk : WalkT) : Rows.FnLowerAssignArraySplitCountsSaid :=
  OpenClaim.holds_of_cond 3 Tryz.f3 rfl rfl rfl rfl rfl rfl rfl ⟨rfl, rfl, rfl, rfl, rfl⟩ rfl rfl rfl rfl rfl (by kernel_rfl) Tryz.func3 closed
    (of_decide_eq_true (by kernel_rfl)) (by unfold Func.isWrapper; first | (rw [if_pos (by decide +kernel)]; kernel_rfl) | (rw [if_neg (by decide +kernel)]; exact ⟨rfl, rfl⟩))
    (fun os started H enc _ F => by rw [OpenClaim.pre_eq_preRow]; exact lifted walk os started H enc F)

theorem plain (f : FuncId) (fn : Func) (hf : Tryz.pinned.checked.prog.funcNamed "github.com/evanw/esbuild/n011_247.FnLowerAssignArraySplitCounts" = some f) (hfn : Tryz.pinned.checked.prog.funcs[f]? = some fn) :
    true = Tryz.pinned.checked.prog.looks [] ∧ ∀ (j : Nat) t, fn.params[j]? = some t → Tryz.pinned.checked.prog.wantsStandIn t = false := by
  obtain rfl : f = 3 := Option.some.inj ((show Tryz.prog.funcNamed "github.com/evanw/esbuild/n011_247.FnLowerAssignArraySplitCounts" = some 3 by kernel_rfl).symm.trans hf) |>.symm
  obtain rfl : fn = Tryz.f3 := (Option.some.inj (Tryz.func3.symm.trans hfn)).symm
  refine ⟨by kernel_rfl, fun j t ht => ?_⟩
  rw [Tryz.params3] at ht
  have hall : ([3, 3, 4, 4] : List TypeId).all (fun t => !Tryz.prog.wantsStandIn t) = true := by kernel_rfl
  have h1 := List.all_eq_true.1 hall t (Array.mem_toList_iff.2 (Array.mem_of_getElem? ht))
  show Tryz.prog.wantsStandIn t = false
  cases h : Tryz.prog.wantsStandIn t with
  | false => rfl
  | true => rw [h] at h1; cases h1

theorem proved_of (walk : WalkT) : Rows.FnLowerAssignArraySplitCountsCardSaid :=
  Claim7.holds_tied_plain_at .later [] _ _ _ _ (said walk) (fun _ h => by cases h) (by kernel_rfl) (fun _ h => by cases h) fnLowerAssignArraySplitCounts_row_tie rfl ⟨rfl, rfl⟩ (by kernel_rfl) rfl plain (by kernel_rfl)
#print axioms proved_of
end Go.Proofs.YtghofdhhhbbaaaaGreatDoor.fnLowerAssignArraySplitCounts
