/-
  Proved: the card of the law n011_42.FnMaybeLowerSetBinOpNonMemberTargetIsRefused: it returns true for every input of its parameters; the package-level variables that its row lists start as the program's text lays them. No other condition.
  The frame of this text follows the kit's toy of a law over a package-level table; the walk lies in YtkhmjppfogppoaaGreatDoorRefuse11.
-/
import Derived.Test.YtkhmjppfogppoaaGreatDoorCards
import Derived.Test.YtkhmjppfogppoaaGreatDoorTie
import Derived.Test.YtkhmjppfogppoaaGreatDoorBase
import Derived.Test.YtkhmjppfogppoaaGreatDoorRefuse11Facts
import Derived.WalkKit
import Derived.ProofKit
import Derived.OpenShut
import Derived.ShutString
import Derived.ChangeOld
import Derived.Below
import Derived.Laws.Cover2
import Derived.OpenVars
import Derived.Deep.DeepHandedRow
namespace Go.Proofs.YtkhmjppfogppoaaGreatDoor.fnMaybeLowerSetBinOpNonMemberTargetIsRefused
open Go.ChangeShapes Go.WideShapes Go.ChangeAt Go.RowKit
open Go.ChangeMaps (open_string shut_string)
set_option linter.unusedVariables false

theorem own : ownKnob Tryz.prog.godebug = none := by kernel_rfl
theorem laidOut : laidOutB Tryz.prog = true := by kernel_rfl


/-- What the walk is to show. -/
def WalkT : Prop := ∀ (a0 : Int) (a1 : Int) (a2 : Bool) (a3 : Bool) (a4 : Int) (a5 : Int) (a6 : Int) (a7 : Nat) (w : World) (w0 : (Lit.int .i64 a0).wf = true) (w1 : (Lit.int .u64 a1).wf = true) (w4 : (Lit.int .u8 a4).wf = true) (w5 : (Lit.int .i32 a5).wf = true) (w6 : (Lit.int .i32 a6).wf = true) (w7 : (Lit.float .f64 a7).wf = true),
    Calls Tryz.prog 3 #[.int .i64 a0, .int .u64 a1, .bool a2, .bool a3, .int .u8 a4, .int .i32 a5, .int .i32 a6, .float .f64 a7] w fun e w' => e = .returned (.bool true) ∧ Below w.heap.size w w'


set_option maxRecDepth 100000 in
theorem contract (walk : WalkT) (H : Type) (enc : TypeId × Value → H) (W : World) (base : Nat) (args : Array Value) (ds gs : List (DataW H)) (before : List MemPlace)
    (hval : ∀ (j : Nat) t v, Tryz.f3.params[j]? = some t → args[j]? = some v → Value.okWide Tryz.prog W .any base t v)
    (hW : DataW.Whole enc Tryz.prog Tryz.f3.params.toList Rows.fnMaybeLowerSetBinOpNonMemberTargetIsRefusedSpec.vars false W args.toList ds gs before) (hL : laidMetH Tryz.prog Rows.fnMaybeLowerSetBinOpNonMemberTargetIsRefusedRow.laid W) :
    Calls Tryz.prog 3 args W fun e W' => ∃ v, e = .returned v ∧ Rows.fnMaybeLowerSetBinOpNonMemberTargetIsRefusedSpec.post enc Tryz.prog Tryz.f3 false true false false W args v W' := by
  have hW' := hW
  obtain ⟨p, q, hA0, hV, rfl, hfz, hnd⟩ := hW
  have hA : DataW.TrodAll enc Tryz.prog W 0 (fun _ => true) true Tryz.f3.params.toList args.toList ds p := hA0
  rw [Tryz.params3] at hA hval
  obtain ⟨v0, vs0, d0, ds0, p0, q0, hargs, rfl, rfl, h0, r0⟩ := trodAll_cons hA
  obtain ⟨v1, vs1, d1, ds1, p1, q1, rfl, rfl, rfl, h1, r1⟩ := trodAll_cons r0
  obtain ⟨v2, vs2, d2, ds2, p2, q2, rfl, rfl, rfl, h2, r2⟩ := trodAll_cons r1
  obtain ⟨v3, vs3, d3, ds3, p3, q3, rfl, rfl, rfl, h3, r3⟩ := trodAll_cons r2
  obtain ⟨v4, vs4, d4, ds4, p4, q4, rfl, rfl, rfl, h4, r4⟩ := trodAll_cons r3
  obtain ⟨v5, vs5, d5, ds5, p5, q5, rfl, rfl, rfl, h5, r5⟩ := trodAll_cons r4
  obtain ⟨v6, vs6, d6, ds6, p6, q6, rfl, rfl, rfl, h6, r6⟩ := trodAll_cons r5
  obtain ⟨v7, vs7, d7, ds7, p7, q7, rfl, rfl, rfl, h7, r7⟩ := trodAll_cons r6
  obtain ⟨rfl, rfl, rfl⟩ := trodAll_nil r7
  obtain rfl : args = #[v0, v1, v2, v3, v4, v5, v6, v7] := by cases args; simp_all
  obtain ⟨a0, rfl, rfl, rfl, w0⟩ := open_int Tryz.underlying3 (hval 0 3 v0 rfl rfl) h0
  obtain ⟨a1, rfl, rfl, rfl, w1⟩ := open_int Tryz.underlying22 (hval 1 22 v1 rfl rfl) h1
  obtain ⟨a2, rfl, rfl, rfl⟩ := open_bool Tryz.underlying4 (hval 2 4 v2 rfl rfl) h2
  obtain ⟨a3, rfl, rfl, rfl⟩ := open_bool Tryz.underlying4 (hval 3 4 v3 rfl rfl) h3
  obtain ⟨a4, rfl, rfl, rfl, w4⟩ := open_int Tryz.underlying5 (hval 4 5 v4 rfl rfl) h4
  obtain ⟨a5, rfl, rfl, rfl, w5⟩ := open_int Tryz.underlying21 (hval 5 21 v5 rfl rfl) h5
  obtain ⟨a6, rfl, rfl, rfl, w6⟩ := open_int Tryz.underlying21 (hval 6 21 v6 rfl rfl) h6
  obtain ⟨a7, rfl, rfl, rfl, w7⟩ := open_float Tryz.underlying23 (hval 7 23 v7 rfl rfl) h7
  obtain ⟨g0, rfl⟩ : ∃ g0, gs = [g0] := by
    have hV0 : DataW.TrodVars enc Tryz.prog W (fun _ => true) ["github.com/evanw/esbuild/internal/ast.InvalidRef"] gs q := hV
    cases gs with
    | nil => exact hV0.elim
    | cons g0 gs =>
      obtain ⟨_, _, _, _, _, _, _, _, _, _, hV1, _⟩ := hV0
      cases gs with
      | nil => exact ⟨g0, rfl⟩
      | cons _ _ => exact hV1.elim
  clear hA0
  refine (walk a0 a1 a2 a3 a4 a5 a6 a7 W  w0 w1 w4 w5 w6 w7).mono fun e W' ⟨he, bel⟩ => ?_
  subst he
  exact ⟨_, rfl, _, _, _, [], _, q, hW', trodAll_mk1 (shut_bool Tryz.underlying4 _), (trodAll_cons_mk (shut_int Tryz.underlying3 w0) (trodAll_cons_mk (shut_int Tryz.underlying22 w1) (trodAll_cons_mk (shut_bool Tryz.underlying4 _) (trodAll_cons_mk (shut_bool Tryz.underlying4 _) (trodAll_cons_mk (shut_int Tryz.underlying5 w4) (trodAll_cons_mk (shut_int Tryz.underlying21 w5) (trodAll_cons_mk (shut_int Tryz.underlying21 w6) (trodAll_cons_mk (shut_float Tryz.underlying23 w7) trodAll_mk0)))))))), (bel.trodVars laidOut (by kernel_rfl) hV), bel.frame _, fun h => by cases h⟩

/-- A world for the witness: the settled one, each listed variable holding what the program's text lays. -/
noncomputable def laidWorld (os : Os) : World :=
  { World.holding Tryz.prog os ⟨#[], #[], []⟩ with heap := ((World.holding Tryz.prog os ⟨#[], #[], []⟩).heap.modify 0 fun
      | .cells _ t frozen => .cells #[.int .u32 4294967295, .int .u32 4294967295] t frozen
      | o => o) }

theorem laid_met (os : Os) : laidMet Tryz.prog Rows.fnMaybeLowerSetBinOpNonMemberTargetIsRefusedRow.laid ((laidWorld os).forCall (fun _ _ => 0) ⟨#[], #[.int .i64 0, .int .u64 0, .bool false, .bool false, .int .u8 0, .int .i32 0, .int .i32 0, .float .f64 0], []⟩).memory :=
  laidMet_of_run' 8 (by kernel_rfl) (by kernel_rfl)
theorem reads (os : Os) {H : Type} (enc : TypeId × Value → H) : ∃ ds gs places, DataW.whole enc Tryz.prog ((laidWorld os).forCall (fun _ _ => 0) ⟨#[], #[.int .i64 0, .int .u64 0, .bool false, .bool false, .int .u8 0, .int .i32 0, .int .i32 0, .float .f64 0], []⟩).memory Tryz.f3.params.toList Rows.fnMaybeLowerSetBinOpNonMemberTargetIsRefusedSpec.vars false (#[.int .i64 0, .int .u64 0, .bool false, .bool false, .int .u8 0, .int .i32 0, .int .i32 0, .float .f64 0] : Array Value).toList 8 = some (ds, gs, places) :=
  (fun h => by obtain ⟨⟨ds, gs, places⟩, hx⟩ := Option.isSome_iff_exists.1 h; exact ⟨ds, gs, places, hx⟩) (show (DataW.whole enc Tryz.prog ((laidWorld os).forCall (fun _ _ => 0) ⟨#[], #[.int .i64 0, .int .u64 0, .bool false, .bool false, .int .u8 0, .int .i32 0, .int .i32 0, .float .f64 0], []⟩).memory Tryz.f3.params.toList Rows.fnMaybeLowerSetBinOpNonMemberTargetIsRefusedSpec.vars false (#[.int .i64 0, .int .u64 0, .bool false, .bool false, .int .u8 0, .int .i32 0, .int .i32 0, .float .f64 0] : Array Value).toList 8).isSome = true by kernel_rfl)
set_option maxRecDepth 100000 in
theorem pre (os : Os) (H : Type) (enc : TypeId × Value → H) : (OpenSpec.ofChange Rows.fnMaybeLowerSetBinOpNonMemberTargetIsRefusedSpec).preRow enc Tryz.prog Tryz.f3 Rows.fnMaybeLowerSetBinOpNonMemberTargetIsRefusedRow.domain false Rows.fnMaybeLowerSetBinOpNonMemberTargetIsRefusedRow.laid ((laidWorld os).forCall (fun _ _ => 0) ⟨#[], #[.int .i64 0, .int .u64 0, .bool false, .bool false, .int .u8 0, .int .i32 0, .int .i32 0, .float .f64 0], []⟩).memory #[.int .i64 0, .int .u64 0, .bool false, .bool false, .int .u8 0, .int .i32 0, .int .i32 0, .float .f64 0] := by
  obtain ⟨ds, gs, places, hx⟩ := reads os enc
  exact OpenSpec.preRow_of_cond 8 hx (by kernel_rfl) (fun k hk => by cases hk) (by kernel_rfl) (laid_met os)

set_option maxRecDepth 100000 in
theorem lifted (walk : WalkT) (os : Os) (started : os.Started) (H : Type) (enc : TypeId × Value → H) (F : Stop.Interp) :
    ReturnsInHanded {} Tryz.checked os 3 .any ((OpenSpec.ofChange Rows.fnMaybeLowerSetBinOpNonMemberTargetIsRefusedSpec).preRow enc Tryz.prog Tryz.f3 Rows.fnMaybeLowerSetBinOpNonMemberTargetIsRefusedRow.domain false Rows.fnMaybeLowerSetBinOpNonMemberTargetIsRefusedRow.laid) (((OpenSpec.ofChange Rows.fnMaybeLowerSetBinOpNonMemberTargetIsRefusedSpec).at F).post enc Tryz.prog Tryz.f3 false true false false) := by
  refine returnsInHanded_of_row (C := Tryz.checked) (s := OpenSpec.ofChange Rows.fnMaybeLowerSetBinOpNonMemberTargetIsRefusedSpec) own started (by kernel_rfl) Tryz.func3
    (witness_row_at (enc := enc) (C := Tryz.checked) false (laidWorld os) #[.int .i64 0, .int .u64 0, .bool false, .bool false, .int .u8 0, .int .i32 0, .int .i32 0, .float .f64 0] rfl (by kernel_rfl) (by kernel_rfl) (by kernel_rfl) (pre os H enc)) ?_
  intro W base args ds gs before hval hW _ _ _ hL _ _
  exact contract walk H enc W base args ds gs before hval hW hL

set_option maxRecDepth 100000 in
theorem said (walk : WalkT) : Rows.FnMaybeLowerSetBinOpNonMemberTargetIsRefusedSaid :=
  OpenClaim.holds_of_cond 3 Tryz.f3 rfl rfl rfl rfl rfl rfl rfl ⟨rfl, rfl, rfl, rfl, rfl⟩ rfl rfl rfl rfl rfl (by kernel_rfl) Tryz.func3 closed
    (of_decide_eq_true (by kernel_rfl)) (by unfold Func.isWrapper; first | (rw [if_pos (by decide +kernel)]; kernel_rfl) | (rw [if_neg (by decide +kernel)]; exact ⟨rfl, rfl⟩))
    (fun os started H enc _ F => by rw [OpenClaim.pre_eq_preRow]; exact lifted walk os started H enc F)

theorem plain (f : FuncId) (fn : Func) (hf : Tryz.pinned.checked.prog.funcNamed "github.com/evanw/esbuild/n011_42.FnMaybeLowerSetBinOpNonMemberTargetIsRefused" = some f) (hfn : Tryz.pinned.checked.prog.funcs[f]? = some fn) :
    true = Tryz.pinned.checked.prog.looks [] ∧ ∀ (j : Nat) t, fn.params[j]? = some t → Tryz.pinned.checked.prog.wantsStandIn t = false := by
  obtain rfl : f = 3 := Option.some.inj ((show Tryz.prog.funcNamed "github.com/evanw/esbuild/n011_42.FnMaybeLowerSetBinOpNonMemberTargetIsRefused" = some 3 by kernel_rfl).symm.trans hf) |>.symm
  obtain rfl : fn = Tryz.f3 := (Option.some.inj (Tryz.func3.symm.trans hfn)).symm
  refine ⟨by kernel_rfl, fun j t ht => ?_⟩
  rw [Tryz.params3] at ht
  have hall : ([3, 22, 4, 4, 5, 21, 21, 23] : List TypeId).all (fun t => !Tryz.prog.wantsStandIn t) = true := by kernel_rfl
  have h1 := List.all_eq_true.1 hall t (Array.mem_toList_iff.2 (Array.mem_of_getElem? ht))
  show Tryz.prog.wantsStandIn t = false
  cases h : Tryz.prog.wantsStandIn t with
  | false => rfl
  | true => rw [h] at h1; cases h1

theorem proved_of (walk : WalkT) : Rows.FnMaybeLowerSetBinOpNonMemberTargetIsRefusedCardSaid :=
  Claim7.holds_tied_plain_at .later [] _ _ _ _ (said walk) (fun _ h => by cases h) (by kernel_rfl) (fun _ h => by cases h) fnMaybeLowerSetBinOpNonMemberTargetIsRefused_row_tie rfl ⟨rfl, rfl⟩ (by kernel_rfl) rfl plain (by kernel_rfl)
#print axioms proved_of
end Go.Proofs.YtkhmjppfogppoaaGreatDoor.fnMaybeLowerSetBinOpNonMemberTargetIsRefused
