/- What the search at a node needs. No condition. -/
import Derived.Test.YtdbnnpoffpipjaaJn
import Derived.Laws.EntriesVeiled
import Derived.Test.YtdbnnpoffpipjaaTre
import Derived.Test.YtdbnnpoffpipjaaLoop
import Derived.Test.YtdbnnpoffpipjaaAppL
import Derived.Test.YtdbnnpoffpipjaaApp
import Derived.Test.YtdbnnpoffpipjaaOwnK
import Derived.Test.YtdbnnpoffpipjaaOwn
import Derived.Test.YtdbnnpoffpipjaaDeepCells
import Derived.Test.YtdbnnpoffpipjaaRows
namespace Go.Proofs.Ytdbnnpoffpipjaa.Use
open Go.ChangeShapes Go.WideShapes Go.ChangeAt Go.RowKit Go.Sort Own
set_option linter.unusedVariables false
theorem NodesIn.mono {X Y : Nat → Obj → Prop} {D : Dat} {t : Tr} (h : NodesIn X D t) (hXY : ∀ b o, X b o → Y b o) : NodesIn Y D t := fun b l r hh => hXY _ _ (h b l r hh)
theorem LeafIn.mono {X Y : Nat → Obj → Prop} {D : Dat} {i : Nat} (h : LeafIn X D i) (hXY : ∀ b o, X b o → Y b o) : LeafIn Y D i := by
  rcases h with h | ⟨h, h'⟩
  · exact Or.inl h
  · exact Or.inr ⟨hXY _ _ h, hXY _ _ h'⟩
theorem dV_one (D : Dat) (t : Tr) : (dV D t).oneCell' = true := by
  obtain ⟨ty, v, h⟩ := dV_iface D t
  rw [h]
  rfl
theorem dO_one (D : Dat) (o : Option Tr) : (dO D o).oneCell' = true := by
  cases o with
  | none => rfl
  | some t => exact dV_one D t
@[go_sem] theorem run_store_dV (P : Program) (w : World) (a : Addr) (m : Mode) (D : Dat) (t : Tr) : (store a (dV D t) m).run P w = stored P w a (dV D t) m := run_store P w a _ m (dV_one D t)
@[go_sem] theorem run_store_dO (P : Program) (w : World) (a : Addr) (m : Mode) (D : Dat) (o : Option Tr) : (store a (dO D o) m).run P w = stored P w a (dO D o) m := run_store P w a _ m (dO_one D o)

def joinO0Post (D : Dat) (r : Tr) (w0 : World) (X : Nat → Obj → Prop) (e : Ending) (w' : World) : Prop :=
  e = .returned (.agg #[dV D r, .int .i32 (lV r)]) ∧ Own w0 w' [] X
theorem joinO0 (D : Dat) (r : Tr) (w0 w : World) (X : Nat → Obj → Prop) (hO : Own w0 w [] X)  :
    Calls Try.prog 20 #[.agg #[dO D none, .int .i32 (lO none)], .agg #[dV D r, .int .i32 (lV r)]] w (joinO0Post D r w0 X) := joinT0 D r w0 w X hO

def joinO1Post (D : Dat) (l : Tr) (w0 : World) (X : Nat → Obj → Prop) (e : Ending) (w' : World) : Prop :=
  e = .returned (.agg #[dV D l, .int .i32 (lV l)]) ∧ Own w0 w' [] X
theorem joinO1 (D : Dat) (l : Tr) (w0 w : World) (X : Nat → Obj → Prop) (hO : Own w0 w [] X)  :
    Calls Try.prog 20 #[.agg #[dV D l, .int .i32 (lV l)], .agg #[dO D none, .int .i32 (lO none)]] w (joinO1Post D l w0 X) := joinT1 D l w0 w X hO

def joinO2Post (D : Dat) (l r : Tr) (w0 : World) (X : Nat → Obj → Prop) (e : Ending) (w' : World) : Prop :=
  ∃ nb : Nat, e = .returned (.agg #[.iface 63 (.pointer (some ⟨nb, 0, none⟩)), .int .i32 (lV l)]) ∧ Own w0 w' [row (nb) 66 (binC D l r)] X
theorem joinO2 (D : Dat) (l r : Tr) (w0 w : World) (X : Nat → Obj → Prop) (hO : Own w0 w [] X)  :
    Calls Try.prog 20 #[.agg #[dO D (some l), .int .i32 (lO (some l))], .agg #[dV D r, .int .i32 (lV r)]] w (joinO2Post D l r w0 X) := joinT2 D l r w0 w X hO

def joinO3Post (D : Dat) (l r : Tr) (w0 : World) (X : Nat → Obj → Prop) (e : Ending) (w' : World) : Prop :=
  ∃ nb : Nat, e = .returned (.agg #[.iface 63 (.pointer (some ⟨nb, 0, none⟩)), .int .i32 (lV l)]) ∧ Own w0 w' [row (nb) 66 (binC D l r)] X
theorem joinO3 (D : Dat) (l r : Tr) (w0 w : World) (X : Nat → Obj → Prop) (hO : Own w0 w [] X)  :
    Calls Try.prog 20 #[.agg #[dV D l, .int .i32 (lV l)], .agg #[dO D (some r), .int .i32 (lO (some r))]] w (joinO3Post D l r w0 X) := joinT2 D l r w0 w X hO

def findNPost (D : Dat) (t : Tr) (w0 : World) (X : Nat → Obj → Prop) (e : Ending) (w' : World) : Prop :=
  e = .returned (.tuple #[.agg #[.nilIface, .int .i32 0], .agg #[.int .i32 0], .pointer none, .agg #[.nilIface, .int .i32 0]]) ∧ Own w0 w' [] X
end Go.Proofs.Ytdbnnpoffpipjaa.Use
