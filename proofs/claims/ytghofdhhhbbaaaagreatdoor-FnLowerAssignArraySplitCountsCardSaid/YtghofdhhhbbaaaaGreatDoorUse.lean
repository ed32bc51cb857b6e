/- The count of a symbol's use, raised by one: recordUsage, walked. No condition. -/
import Derived.Test.YtghofdhhhbbaaaaGreatDoorRows
import Derived.Test.YtghofdhhhbbaaaaGreatDoorDeepCells
import Derived.Test.YtghofdhhhbbaaaaGreatDoorKept
import Derived.RegionTactic
import Derived.ChangeAlike
namespace Go.Proofs.YtghofdhhhbbaaaaGreatDoor.Use
open Go.ChangeShapes Go.WideShapes Go.ChangeAt Go.RowKit Go.Sort
set_option linter.unusedVariables false

/-- What recordUsage reads of a parser: outside dead code, no current part, no TypeScript; where its symbols lie. -/
structure ParAt (w : World) (pb sb n cap : Nat) : Prop where
  dead : w.cell? ⟨pb, 350, none⟩ = some (.bool false)
  part : w.cell? ⟨pb, 105, none⟩ = some (.pointer none)
  ts : w.cell? ⟨pb, 32, none⟩ = some (.bool false)
  syms : w.cell? ⟨pb, 106, none⟩ = some (.slice (some ⟨sb, 0, none⟩) n cap)
theorem ParAt.lt {w : World} {pb sb n cap : Nat} (h : ParAt w pb sb n cap) : pb < w.heap.size := Base.block_of_cell h.dead
theorem ParAt.kept {w w' : World} {pb sb n cap : Nat} {S : List Nat} (h : ParAt w pb sb n cap) (k : Base.KeptBut S w w') (hn : pb ∉ S) : ParAt w' pb sb n cap :=
  ⟨k.cell_some h.dead hn, k.cell_some h.part hn, k.cell_some h.ts hn, k.cell_some h.syms hn⟩
theorem ParAt.below {w w' : World} {pb sb n cap B : Nat} (h : ParAt w pb sb n cap) (k : Below B w w') (hb : pb < B) : ParAt w' pb sb n cap :=
  ⟨Base.cell_below k hb h.dead, Base.cell_below k hb h.part, Base.cell_below k hb h.ts, Base.cell_below k hb h.syms⟩

/-- Symbol i, whose count was c, is counted once more; nothing else of what was there has turned. -/
def Bump (sb i c : Nat) (C : Array Value) (w : World) (w' : World) : Prop :=
  Base.KeptBut [sb] w w' ∧ Base.RowAt w' sb 201 (C.setIfInBounds (i * 10 + 4) (.int .u32 ((c + 1 : Nat) : Int)))

set_option maxRecDepth 100000 in
set_option maxHeartbeats 1000000 in
theorem recordUsage (pb sb n cap i c : Nat) (src : Int) (C : Array Value) (w : World) (hP : ParAt w pb sb n cap) (hi : i < n) (hn : n ≤ 4294967295) (hne : pb ≠ sb)
    (hC : Base.RowAt w sb 201 C) (hc : C[i * 10 + 4]? = some (.int .u32 (c : Int))) (hcm : c < 4294967295) :
    Calls Tryz.prog 36 #[.pointer (some ⟨pb, 0, none⟩), .agg #[.int .u32 src, .int .u32 (i : Int)]] w fun e w' => e = .returned (.tuple #[]) ∧ Bump sb i c C w w' := by
  have h1 := hP.dead
  have h2 := hP.part
  have h3 := hP.ts
  have h4 := hP.syms
  have hpl := hP.lt
  have hsl := hC.lt
  have h5 : w.cell? ⟨sb, i * 10 + 4, none⟩ = some (.int .u32 (c : Int)) := hC.cell hc
  have h6 : w.frozen? ⟨sb, i * 10 + 4, none⟩ = false := hC.free _
  have HC := Lib.hid hC
  clear hC hP hc
  go_enter Tryz.func36, Tryz.ntmps36
  go_wp2
  go_region
  go_wp2
  go_end0
  refine ⟨rfl, (((Base.KeptBut.refl _ _).setCell (Or.inl (by simp)) _).alloc _).drew, ?_⟩
  exact ((HC.out.set _ _).alloc _).drew
end Go.Proofs.YtghofdhhhbbaaaaGreatDoor.Use
