/-
  Proved: the card of the law n011_263.FnFinalizeMergesExports: it returns true for every input of its parameters; the package-level variables that its row lists start as the program's text lays them. No other condition.
  The frame of this text follows the kit's toy of a law over a package-level table; the walk lies in YtikopplofkemlaaDoorMrg.
-/
import Derived.Test.YtikopplofkemlaaDoorTie
import Derived.Test.YtikopplofkemlaaDoorBase
import Derived.Test.YtikopplofkemlaaDoorTold
import Derived.Test.YtikopplofkemlaaDoorMrgFacts
import Derived.WalkKit
import Derived.ProofKit
import Derived.OpenShut
import Derived.ShutString
import Derived.ChangeOld
import Derived.Below
import Derived.Laws.Cover2
import Derived.OpenVars
import Derived.Deep.DeepHandedRow
import Derived.Deep.Grids
import Derived.SliceStrings
namespace Go.Proofs.YtikopplofkemlaaDoor.fnFinalizeMergesExports
open Go.ChangeShapes Go.WideShapes Go.ChangeAt Go.RowKit
open Go.ChangeMaps (open_string shut_string)
set_option linter.unusedVariables false

theorem own : ownKnob Tryd.prog.godebug = none := by kernel_rfl
theorem laidOut : laidOutB Tryd.prog = true := by kernel_rfl

/-- What the walk is told of a slice of strings that came in: it is nil; or it leads to its cells. -/
def IsStrs (w : World) (a : Option Addr) (len cap : Nat) (z : Nat → ByteArray) : Prop :=
  (a = none ∧ len = 0 ∧ cap = 0) ∨ ∃ x, a = some x ∧ len ≤ cap ∧ cap ≤ maxLen ∧ ∀ i, i < len → w.cell? (x.add i) = some (.string (z i)) ∧ (z i).size ≤ maxLen

/-- What the walk is to show. -/
def WalkT : Prop := ∀ (a0 : Option Addr) (len0 cap0 : Nat) (z0 : Nat → ByteArray) (a1 : Bool) (w : World) (hg0_0 : w.cell? ⟨0, 0, none⟩ = some (.int .u32 4294967295)) (hg0_1 : w.cell? ⟨0, 1, none⟩ = some (.int .u32 4294967295)) (w0 : IsStrs w a0 len0 cap0 z0),
    Calls Tryd.prog 3 #[.slice a0 len0 cap0, .bool a1] w fun e w' => e = .returned (.bool true) ∧ Below w.heap.size w w'


set_option maxRecDepth 100000 in
theorem contract (walk : WalkT) (H : Type) (enc : TypeId × Value → H) (W : World) (base : Nat) (args : Array Value) (ds gs : List (DataW H)) (before : List MemPlace)
    (hval : ∀ (j : Nat) t v, Tryd.f3.params[j]? = some t → args[j]? = some v → Value.okWide Tryd.prog W .any base t v)
    (hW : DataW.Whole enc Tryd.prog Tryd.f3.params.toList Rows.fnFinalizeMergesExportsSpec.vars false W args.toList ds gs before) (hL : laidMetH Tryd.prog Rows.fnFinalizeMergesExportsRow.laid W) :
    Calls Tryd.prog 3 args W fun e W' => ∃ v, e = .returned v ∧ Rows.fnFinalizeMergesExportsSpec.post enc Tryd.prog Tryd.f3 false true false false W args v W' := by
  have hW' := hW
  obtain ⟨p, q, hA0, hV, rfl, hfz, hnd⟩ := hW
  have hA : DataW.TrodAll enc Tryd.prog W 0 (fun _ => true) true Tryd.f3.params.toList args.toList ds p := hA0
  rw [Tryd.params3] at hA hval
  obtain ⟨v0, vs0, d0, ds0, p0, q0, hargs, rfl, rfl, h0, r0⟩ := trodAll_cons hA
  obtain ⟨v1, vs1, d1, ds1, p1, q1, rfl, rfl, rfl, h1, r1⟩ := trodAll_cons r0
  obtain ⟨rfl, rfl, rfl⟩ := trodAll_nil r1
  obtain rfl : args = #[v0, v1] := by cases args; simp_all
  obtain ⟨a0, len0, cap0, rfl⟩ := okWide_slice Tryd.underlying22 (hval 0 22 v0 rfl rfl)
  have k0 := h0
  have lt0 : ∀ x ∈ p0, x.block < W.heap.size := by obtain ⟨m, hm⟩ := k0; exact DataW.trod_lt m _ _ _ hm
  obtain ⟨z0, w0⟩ : ∃ zs, IsStrs W a0 len0 cap0 zs := by
    obtain ⟨fuel, hf⟩ := h0
    rcases open_strings Tryd.underlying22 Tryd.underlying9 (by kernel_rfl) hf with ⟨hcs, _⟩ | ⟨x, l, c, ss, hcs, _, hl, hm, hz, _, hcell, hwz⟩
    · simp [Value.cells] at hcs
      obtain ⟨rfl, rfl, rfl⟩ := hcs
      exact ⟨fun _ => ByteArray.empty, .inl ⟨rfl, rfl, rfl⟩⟩
    · simp [Value.cells] at hcs
      obtain ⟨rfl, rfl, rfl⟩ := hcs
      have hz9 : ss.length = cap0 := by simpa using hz
      refine ⟨fun i => ss.getD i ByteArray.empty, .inr ⟨_, rfl, hl, hm, fun i hi => ⟨hcell i (by omega), ?_⟩⟩⟩
      show (ss.getD i ByteArray.empty).size ≤ maxLen
      rw [List.getD_eq_getElem?_getD, List.getElem?_eq_getElem (by omega)]
      exact hwz _ (List.getElem_mem (by omega))
  obtain ⟨a1, rfl, rfl, rfl⟩ := open_bool Tryd.underlying4 (hval 1 4 v1 rfl rfl) h1
  obtain ⟨hg0_0, hg0_1⟩ : W.cell? ⟨0, 0, none⟩ = some (.int .u32 4294967295) ∧ W.cell? ⟨0, 1, none⟩ = some (.int .u32 4294967295) := by
    rw [MakeChecks.laidMetH_plain _ _ _ (by kernel_rfl)] at hL
    exact Use.refOfLaid hL
  obtain ⟨g0, rfl⟩ : ∃ g0, gs = [g0] := by
    have hV0 : DataW.TrodVars enc Tryd.prog W (fun _ => true) ["github.com/evanw/esbuild/internal/ast.InvalidRef"] gs q := hV
    cases gs with
    | nil => exact hV0.elim
    | cons g0 gs =>
      obtain ⟨_, _, _, _, _, _, _, _, _, _, hV1, _⟩ := hV0
      cases gs with
      | nil => exact ⟨g0, rfl⟩
      | cons _ _ => exact hV1.elim
  clear hA0
  refine (walk a0 len0 cap0 z0 a1 W hg0_0 hg0_1 w0).mono fun e W' ⟨he, bel⟩ => ?_
  subst he
  exact ⟨_, rfl, _, _, _, [], _, q, hW', trodAll_mk1 (shut_bool Tryd.underlying4 _), (trodAll_cons_mk (Below.trod laidOut (by kernel_rfl) (of_decide_eq_true (by kernel_rfl)) k0 bel lt0) (trodAll_cons_mk (shut_bool Tryd.underlying4 _) trodAll_mk0)), (bel.trodVars laidOut (by kernel_rfl) hV), bel.frame _, fun h => by cases h⟩

/-- A world for the witness: the settled one, each listed variable holding what the program's text lays. -/
noncomputable def laidWorld (os : Os) : World :=
  { World.holding Tryd.prog os ⟨#[], #[], []⟩ with heap := ((World.holding Tryd.prog os ⟨#[], #[], []⟩).heap.modify 0 fun
      | .cells _ t frozen => .cells #[.int .u32 4294967295, .int .u32 4294967295] t frozen
      | o => o) }

theorem laid_met (os : Os) : laidMet Tryd.prog Rows.fnFinalizeMergesExportsRow.laid ((laidWorld os).forCall (fun _ _ => 0) ⟨#[], #[.slice none 0 0, .bool false], []⟩).memory :=
  laidMet_of_run' 8 (by kernel_rfl) (by kernel_rfl)
theorem reads (os : Os) {H : Type} (enc : TypeId × Value → H) : ∃ ds gs places, DataW.whole enc Tryd.prog ((laidWorld os).forCall (fun _ _ => 0) ⟨#[], #[.slice none 0 0, .bool false], []⟩).memory Tryd.f3.params.toList Rows.fnFinalizeMergesExportsSpec.vars false (#[.slice none 0 0, .bool false] : Array Value).toList 8 = some (ds, gs, places) :=
  (fun h => by obtain ⟨⟨ds, gs, places⟩, hx⟩ := Option.isSome_iff_exists.1 h; exact ⟨ds, gs, places, hx⟩) (show (DataW.whole enc Tryd.prog ((laidWorld os).forCall (fun _ _ => 0) ⟨#[], #[.slice none 0 0, .bool false], []⟩).memory Tryd.f3.params.toList Rows.fnFinalizeMergesExportsSpec.vars false (#[.slice none 0 0, .bool false] : Array Value).toList 8).isSome = true by kernel_rfl)
set_option maxRecDepth 100000 in
theorem pre (os : Os) (H : Type) (enc : TypeId × Value → H) : (OpenSpec.ofChange Rows.fnFinalizeMergesExportsSpec).preRow enc Tryd.prog Tryd.f3 Rows.fnFinalizeMergesExportsRow.domain false Rows.fnFinalizeMergesExportsRow.laid ((laidWorld os).forCall (fun _ _ => 0) ⟨#[], #[.slice none 0 0, .bool false], []⟩).memory #[.slice none 0 0, .bool false] := by
  obtain ⟨ds, gs, places, hx⟩ := reads os enc
  exact OpenSpec.preRow_of_cond 8 hx (by kernel_rfl) (fun k hk => by cases hk) (by kernel_rfl) (laid_met os)

set_option maxRecDepth 100000 in
theorem lifted (walk : WalkT) (os : Os) (started : os.Started) (H : Type) (enc : TypeId × Value → H) (F : Stop.Interp) :
    ReturnsInHanded {} Tryd.checked os 3 .any ((OpenSpec.ofChange Rows.fnFinalizeMergesExportsSpec).preRow enc Tryd.prog Tryd.f3 Rows.fnFinalizeMergesExportsRow.domain false Rows.fnFinalizeMergesExportsRow.laid) (((OpenSpec.ofChange Rows.fnFinalizeMergesExportsSpec).at F).post enc Tryd.prog Tryd.f3 false true false false) := by
  refine returnsInHanded_of_row (C := Tryd.checked) (s := OpenSpec.ofChange Rows.fnFinalizeMergesExportsSpec) own started (by kernel_rfl) Tryd.func3
    (witness_row_at (enc := enc) (C := Tryd.checked) false (laidWorld os) #[.slice none 0 0, .bool false] rfl (by kernel_rfl) (by kernel_rfl) (by kernel_rfl) (pre os H enc)) ?_
  intro W base args ds gs before hval hW _ _ _ hL _ _
  exact contract walk H enc W base args ds gs before hval hW hL

set_option maxRecDepth 100000 in
theorem said (walk : WalkT) : Rows.FnFinalizeMergesExportsSaid :=
  OpenClaim.holds_of_cond 3 Tryd.f3 rfl rfl rfl rfl rfl rfl rfl ⟨rfl, rfl, rfl, rfl, rfl⟩ rfl rfl rfl rfl rfl (by kernel_rfl) Tryd.func3 closed
    (of_decide_eq_true (by kernel_rfl)) (by unfold Func.isWrapper; first | (rw [if_pos (by decide +kernel)]; kernel_rfl) | (rw [if_neg (by decide +kernel)]; exact ⟨rfl, rfl⟩))
    (fun os started H enc _ F => by rw [OpenClaim.pre_eq_preRow]; exact lifted walk os started H enc F)

theorem plain (f : FuncId) (fn : Func) (hf : Tryd.pinned.checked.prog.funcNamed "github.com/evanw/esbuild/n011_263.FnFinalizeMergesExports" = some f) (hfn : Tryd.pinned.checked.prog.funcs[f]? = some fn) :
    true = Tryd.pinned.checked.prog.looks [] ∧ ∀ (j : Nat) t, fn.params[j]? = some t → Tryd.pinned.checked.prog.wantsStandIn t = false := by
  obtain rfl : f = 3 := Option.some.inj ((show Tryd.prog.funcNamed "github.com/evanw/esbuild/n011_263.FnFinalizeMergesExports" = some 3 by kernel_rfl).symm.trans hf) |>.symm
  obtain rfl : fn = Tryd.f3 := (Option.some.inj (Tryd.func3.symm.trans hfn)).symm
  refine ⟨by kernel_rfl, fun j t ht => ?_⟩
  rw [Tryd.params3] at ht
  have hall : ([22, 4] : List TypeId).all (fun t => !Tryd.prog.wantsStandIn t) = true := by kernel_rfl
  have h1 := List.all_eq_true.1 hall t (Array.mem_toList_iff.2 (Array.mem_of_getElem? ht))
  show Tryd.prog.wantsStandIn t = false
  cases h : Tryd.prog.wantsStandIn t with
  | false => rfl
  | true => rw [h] at h1; cases h1

theorem proved_of (walk : WalkT) : Rows.FnFinalizeMergesExportsCardSaid :=
  Claim7.holds_tied_plain_at .later [] _ _ _ _ (said walk) (fun _ h => by cases h) (by kernel_rfl) (fun _ h => by cases h) fnFinalizeMergesExports_row_tie rfl ⟨rfl, rfl⟩ (by kernel_rfl) rfl plain (by kernel_rfl)
#print axioms proved_of
end Go.Proofs.YtikopplofkemlaaDoor.fnFinalizeMergesExports
