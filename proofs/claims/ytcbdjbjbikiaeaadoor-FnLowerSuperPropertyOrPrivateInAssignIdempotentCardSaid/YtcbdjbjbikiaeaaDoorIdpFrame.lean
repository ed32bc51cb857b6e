/-
  Proved: the card of the law n011_145.FnLowerSuperPropertyOrPrivateInAssignIdempotent: it returns true for every input of its parameters; the package-level variables that its row lists start as the program's text lays them. No other condition.
  The frame of this text follows the kit's toy of a law over a package-level table; the walk lies in YtcbdjbjbikiaeaaDoorIdp.
-/
import Derived.Test.YtcbdjbjbikiaeaaDoorCards
import Derived.Test.YtcbdjbjbikiaeaaDoorTie
import Derived.Test.YtcbdjbjbikiaeaaDoorBase
import Derived.Test.YtcbdjbjbikiaeaaDoorIdpFacts
import Derived.WalkKit
import Derived.ProofKit
import Derived.OpenShut
import Derived.ShutString
import Derived.ChangeOld
import Derived.Below
import Derived.Laws.Cover2
import Derived.OpenVars
import Derived.Deep.DeepHandedRow
import Derived.Deep.Grids
import Derived.SliceStrings
namespace Go.Proofs.YtcbdjbjbikiaeaaDoor.fnLowerSuperPropertyOrPrivateInAssignIdempotent
open Go.ChangeShapes Go.WideShapes Go.ChangeAt Go.RowKit
open Go.ChangeMaps (open_string shut_string)
set_option linter.unusedVariables false

theorem own : ownKnob Tryd.prog.godebug = none := by kernel_rfl
theorem laidOut : laidOutB Tryd.prog = true := by kernel_rfl

/-- What the walk is told of a slice of integers that came in: it is nil; or it leads to a row of 'cap' cells, the numbers 'zs'. -/
def IsRow (k : IntKind) (w : World) (a : Option Addr) (len cap : Nat) (zs : List Int) : Prop :=
  (a = none ∧ len = 0 ∧ cap = 0 ∧ zs = []) ∨
  ∃ x, a = some x ∧ len ≤ cap ∧ cap ≤ maxLen ∧ zs.length = cap ∧ (∀ i, i < zs.length → w.cell? (x.add i) = some (.int k (zs.getD i 0))) ∧ ∀ n ∈ zs, (Lit.int k n).wf = true

/-- What the walk is to show. -/
def WalkT : Prop := ∀ (a0 : Bool) (a1 : Bool) (a2 : Bool) (a3 : Option Addr) (len3 cap3 : Nat) (z3 : List Int) (a4 : ByteArray) (w : World) (w3 : IsRow .u8 w a3 len3 cap3 z3) (w4 : a4.size ≤ maxLen),
    Calls Tryd.prog 6 #[.bool a0, .bool a1, .bool a2, .slice a3 len3 cap3, .string a4] w fun e w' => e = .returned (.bool true) ∧ Below w.heap.size w w'


set_option maxRecDepth 100000 in
theorem contract (walk : WalkT) (H : Type) (enc : TypeId × Value → H) (W : World) (base : Nat) (args : Array Value) (ds gs : List (DataW H)) (before : List MemPlace)
    (hval : ∀ (j : Nat) t v, Tryd.f6.params[j]? = some t → args[j]? = some v → Value.okWide Tryd.prog W .any base t v)
    (hW : DataW.Whole enc Tryd.prog Tryd.f6.params.toList Rows.fnLowerSuperPropertyOrPrivateInAssignIdempotentSpec.vars false W args.toList ds gs before) (hL : laidMetH Tryd.prog Rows.fnLowerSuperPropertyOrPrivateInAssignIdempotentRow.laid W) :
    Calls Tryd.prog 6 args W fun e W' => ∃ v, e = .returned v ∧ Rows.fnLowerSuperPropertyOrPrivateInAssignIdempotentSpec.post enc Tryd.prog Tryd.f6 false true false false W args v W' := by
  have hW' := hW
  obtain ⟨p, q, hA0, hV, rfl, hfz, hnd⟩ := hW
  have hA : DataW.TrodAll enc Tryd.prog W 0 (fun _ => true) true Tryd.f6.params.toList args.toList ds p := hA0
  rw [Tryd.params6] at hA hval
  obtain ⟨v0, vs0, d0, ds0, p0, q0, hargs, rfl, rfl, h0, r0⟩ := trodAll_cons hA
  obtain ⟨v1, vs1, d1, ds1, p1, q1, rfl, rfl, rfl, h1, r1⟩ := trodAll_cons r0
  obtain ⟨v2, vs2, d2, ds2, p2, q2, rfl, rfl, rfl, h2, r2⟩ := trodAll_cons r1
  obtain ⟨v3, vs3, d3, ds3, p3, q3, rfl, rfl, rfl, h3, r3⟩ := trodAll_cons r2
  obtain ⟨v4, vs4, d4, ds4, p4, q4, rfl, rfl, rfl, h4, r4⟩ := trodAll_cons r3
  obtain ⟨rfl, rfl, rfl⟩ := trodAll_nil r4
  obtain rfl : args = #[v0, v1, v2, v3, v4] := by cases args; simp_all
  obtain ⟨a0, rfl, rfl, rfl⟩ := open_bool Tryd.underlying4 (hval 0 4 v0 rfl rfl) h0
  obtain ⟨a1, rfl, rfl, rfl⟩ := open_bool Tryd.underlying4 (hval 1 4 v1 rfl rfl) h1
  obtain ⟨a2, rfl, rfl, rfl⟩ := open_bool Tryd.underlying4 (hval 2 4 v2 rfl rfl) h2
  obtain ⟨a3, len3, cap3, rfl⟩ := okWide_slice Tryd.underlying58 (hval 3 58 v3 rfl rfl)
  have k3 := h3
  have lt3 : ∀ x ∈ p3, x.block < W.heap.size := by obtain ⟨m, hm⟩ := k3; exact DataW.trod_lt m _ _ _ hm
  obtain ⟨z3, w3⟩ : ∃ zs, IsRow .u8 W a3 len3 cap3 zs := by
    obtain ⟨fuel, hf⟩ := h3
    rcases open_ints Tryd.underlying58 Tryd.underlying5 (by kernel_rfl) hf with ⟨hcs, _⟩ | ⟨x, l, c, zs, hcs, _, hl, hm, hz, _, hcell, hwz⟩
    · simp [Value.cells] at hcs
      obtain ⟨rfl, rfl, rfl⟩ := hcs
      exact ⟨[], .inl ⟨rfl, rfl, rfl, rfl⟩⟩
    · simp [Value.cells] at hcs
      obtain ⟨rfl, rfl, rfl⟩ := hcs
      exact ⟨zs, .inr ⟨_, rfl, hl, hm, by simpa using hz, hcell, hwz⟩⟩
  obtain ⟨a4, rfl, rfl, rfl, w4⟩ := open_string Tryd.underlying9 (hval 4 9 v4 rfl rfl) h4
  obtain ⟨g0, rfl⟩ : ∃ g0, gs = [g0] := by
    have hV0 : DataW.TrodVars enc Tryd.prog W (fun _ => true) ["github.com/evanw/esbuild/internal/ast.InvalidRef"] gs q := hV
    cases gs with
    | nil => exact hV0.elim
    | cons g0 gs =>
      obtain ⟨_, _, _, _, _, _, _, _, _, _, hV1, _⟩ := hV0
      cases gs with
      | nil => exact ⟨g0, rfl⟩
      | cons _ _ => exact hV1.elim
  clear hA0
  refine (walk a0 a1 a2 a3 len3 cap3 z3 a4 W  w3 w4).mono fun e W' ⟨he, bel⟩ => ?_
  subst he
  exact ⟨_, rfl, _, _, _, [], _, q, hW', trodAll_mk1 (shut_bool Tryd.underlying4 _), (trodAll_cons_mk (shut_bool Tryd.underlying4 _) (trodAll_cons_mk (shut_bool Tryd.underlying4 _) (trodAll_cons_mk (shut_bool Tryd.underlying4 _) (trodAll_cons_mk (Below.trod laidOut (by kernel_rfl) (of_decide_eq_true (by kernel_rfl)) k3 bel lt3) (trodAll_cons_mk (shut_string Tryd.underlying9 w4) trodAll_mk0))))), (bel.trodVars laidOut (by kernel_rfl) hV), bel.frame _, fun h => by cases h⟩

/-- A world for the witness: the settled one, each listed variable holding what the program's text lays. -/
noncomputable def laidWorld (os : Os) : World :=
  { World.holding Tryd.prog os ⟨#[], #[], []⟩ with heap := ((World.holding Tryd.prog os ⟨#[], #[], []⟩).heap.modify 0 fun
      | .cells _ t frozen => .cells #[.int .u32 4294967295, .int .u32 4294967295] t frozen
      | o => o) }

theorem laid_met (os : Os) : laidMet Tryd.prog Rows.fnLowerSuperPropertyOrPrivateInAssignIdempotentRow.laid ((laidWorld os).forCall (fun _ _ => 0) ⟨#[], #[.bool false, .bool false, .bool false, .slice none 0 0, .string ByteArray.empty], []⟩).memory :=
  laidMet_of_run' 8 (by kernel_rfl) (by kernel_rfl)
theorem reads (os : Os) {H : Type} (enc : TypeId × Value → H) : ∃ ds gs places, DataW.whole enc Tryd.prog ((laidWorld os).forCall (fun _ _ => 0) ⟨#[], #[.bool false, .bool false, .bool false, .slice none 0 0, .string ByteArray.empty], []⟩).memory Tryd.f6.params.toList Rows.fnLowerSuperPropertyOrPrivateInAssignIdempotentSpec.vars false (#[.bool false, .bool false, .bool false, .slice none 0 0, .string ByteArray.empty] : Array Value).toList 8 = some (ds, gs, places) :=
  (fun h => by obtain ⟨⟨ds, gs, places⟩, hx⟩ := Option.isSome_iff_exists.1 h; exact ⟨ds, gs, places, hx⟩) (show (DataW.whole enc Tryd.prog ((laidWorld os).forCall (fun _ _ => 0) ⟨#[], #[.bool false, .bool false, .bool false, .slice none 0 0, .string ByteArray.empty], []⟩).memory Tryd.f6.params.toList Rows.fnLowerSuperPropertyOrPrivateInAssignIdempotentSpec.vars false (#[.bool false, .bool false, .bool false, .slice none 0 0, .string ByteArray.empty] : Array Value).toList 8).isSome = true by kernel_rfl)
set_option maxRecDepth 100000 in
theorem pre (os : Os) (H : Type) (enc : TypeId × Value → H) : (OpenSpec.ofChange Rows.fnLowerSuperPropertyOrPrivateInAssignIdempotentSpec).preRow enc Tryd.prog Tryd.f6 Rows.fnLowerSuperPropertyOrPrivateInAssignIdempotentRow.domain false Rows.fnLowerSuperPropertyOrPrivateInAssignIdempotentRow.laid ((laidWorld os).forCall (fun _ _ => 0) ⟨#[], #[.bool false, .bool false, .bool false, .slice none 0 0, .string ByteArray.empty], []⟩).memory #[.bool false, .bool false, .bool false, .slice none 0 0, .string ByteArray.empty] := by
  obtain ⟨ds, gs, places, hx⟩ := reads os enc
  exact OpenSpec.preRow_of_cond 8 hx (by kernel_rfl) (fun k hk => by cases hk) (by kernel_rfl) (laid_met os)

set_option maxRecDepth 100000 in
theorem lifted (walk : WalkT) (os : Os) (started : os.Started) (H : Type) (enc : TypeId × Value → H) (F : Stop.Interp) :
    ReturnsInHanded {} Tryd.checked os 6 .any ((OpenSpec.ofChange Rows.fnLowerSuperPropertyOrPrivateInAssignIdempotentSpec).preRow enc Tryd.prog Tryd.f6 Rows.fnLowerSuperPropertyOrPrivateInAssignIdempotentRow.domain false Rows.fnLowerSuperPropertyOrPrivateInAssignIdempotentRow.laid) (((OpenSpec.ofChange Rows.fnLowerSuperPropertyOrPrivateInAssignIdempotentSpec).at F).post enc Tryd.prog Tryd.f6 false true false false) := by
  refine returnsInHanded_of_row (C := Tryd.checked) (s := OpenSpec.ofChange Rows.fnLowerSuperPropertyOrPrivateInAssignIdempotentSpec) own started (by kernel_rfl) Tryd.func6
    (witness_row_at (enc := enc) (C := Tryd.checked) false (laidWorld os) #[.bool false, .bool false, .bool false, .slice none 0 0, .string ByteArray.empty] rfl (by kernel_rfl) (by kernel_rfl) (by kernel_rfl) (pre os H enc)) ?_
  intro W base args ds gs before hval hW _ _ _ hL _ _
  exact contract walk H enc W base args ds gs before hval hW hL

set_option maxRecDepth 100000 in
theorem said (walk : WalkT) : Rows.FnLowerSuperPropertyOrPrivateInAssignIdempotentSaid :=
  OpenClaim.holds_of_cond 6 Tryd.f6 rfl rfl rfl rfl rfl rfl rfl ⟨rfl, rfl, rfl, rfl, rfl⟩ rfl rfl rfl rfl rfl (by kernel_rfl) Tryd.func6 closed
    (of_decide_eq_true (by kernel_rfl)) (by unfold Func.isWrapper; first | (rw [if_pos (by decide +kernel)]; kernel_rfl) | (rw [if_neg (by decide +kernel)]; exact ⟨rfl, rfl⟩))
    (fun os started H enc _ F => by rw [OpenClaim.pre_eq_preRow]; exact lifted walk os started H enc F)

theorem plain (f : FuncId) (fn : Func) (hf : Tryd.pinned.checked.prog.funcNamed "github.com/evanw/esbuild/n011_145.FnLowerSuperPropertyOrPrivateInAssignIdempotent" = some f) (hfn : Tryd.pinned.checked.prog.funcs[f]? = some fn) :
    true = Tryd.pinned.checked.prog.looks [] ∧ ∀ (j : Nat) t, fn.params[j]? = some t → Tryd.pinned.checked.prog.wantsStandIn t = false := by
  obtain rfl : f = 6 := Option.some.inj ((show Tryd.prog.funcNamed "github.com/evanw/esbuild/n011_145.FnLowerSuperPropertyOrPrivateInAssignIdempotent" = some 6 by kernel_rfl).symm.trans hf) |>.symm
  obtain rfl : fn = Tryd.f6 := (Option.some.inj (Tryd.func6.symm.trans hfn)).symm
  refine ⟨by kernel_rfl, fun j t ht => ?_⟩
  rw [Tryd.params6] at ht
  have hall : ([4, 4, 4, 58, 9] : List TypeId).all (fun t => !Tryd.prog.wantsStandIn t) = true := by kernel_rfl
  have h1 := List.all_eq_true.1 hall t (Array.mem_toList_iff.2 (Array.mem_of_getElem? ht))
  show Tryd.prog.wantsStandIn t = false
  cases h : Tryd.prog.wantsStandIn t with
  | false => rfl
  | true => rw [h] at h1; cases h1

theorem proved_of (walk : WalkT) : Rows.FnLowerSuperPropertyOrPrivateInAssignIdempotentCardSaid :=
  Claim7.holds_tied_plain_at .later [] _ _ _ _ (said walk) (fun _ h => by cases h) (by kernel_rfl) (fun _ h => by cases h) fnLowerSuperPropertyOrPrivateInAssignIdempotent_row_tie rfl ⟨rfl, rfl⟩ (by kernel_rfl) rfl plain (by kernel_rfl)
#print axioms proved_of
end Go.Proofs.YtcbdjbjbikiaeaaDoor.fnLowerSuperPropertyOrPrivateInAssignIdempotent
