/- Small laws of the walk that the seat's texts share: a type assertion to a pointer type with the comma-ok form; a great composite kept closed. No condition. -/
import Derived.WalkKit
import Derived.WalkLawsBesides
import Derived.WalkSpells
import Derived.ProofKit
import Derived.Below
import Derived.Handy
import Derived.Lib.Hide
import Derived.Laws.Tables
namespace Go.Proofs.YtghofdhhhbbaaaaGreatDoor.Base

def isPtr : Option TypeDesc → Bool
  | some (.pointer _) => true
  | _ => false
@[simp] theorem isPtr_some (e : TypeId) : isPtr (some (.pointer e)) = true := rfl
theorem isPtr_inv {d : Option TypeDesc} (h : isPtr d = true) : ∃ e, d = some (.pointer e) := by
  cases d with
  | none => cases h
  | some d => cases d <;> first | (exact ⟨_, rfl⟩) | cases h

section
variable {P : Program} (w : World)
@[go_sem] theorem run_typeAssert_ptr (t u xT : TypeId) (v : Value) (hu : isPtr (P.underlying u) = true)
    (hz : (zeroValue u).run P w = .ok (.pointer none) w) :
    (Instr.typeAssert (.iface t v) xT u true).run P w = .ok (.tuple #[if t = u then v else .pointer none, .bool (decide (t = u))]) w := by
  obtain ⟨e, he⟩ := isPtr_inv hu
  by_cases h : t = u <;> simp [Instr.typeAssert, run_underlying he, hz, h]
@[go_sem] theorem run_typeAssert_nil (u xT : TypeId) (hu : isPtr (P.underlying u) = true)
    (hz : (zeroValue u).run P w = .ok (.pointer none) w) :
    (Instr.typeAssert .nilIface xT u true).run P w = .ok (.tuple #[.pointer none, .bool false]) w := by
  obtain ⟨e, he⟩ := isPtr_inv hu
  simp [Instr.typeAssert, run_underlying he, hz]
end
/-- The cells of a composite of type t with these parts: closed to the walk. -/
def builtOf (P : Program) (t : TypeId) (parts : List (Nat × Value)) : Array Value := (P.built t parts).getD #[]

/-- A composite that the walk is to keep closed (a struct of hundreds of cells). -/
theorem wpList_buildL {P : Program} {ops : Array Oper} {Q : Exit → Act → World → Prop} {rest : List Oper} {a : Act} {w : World} {d : Tmp} (t : TypeId) {ty : TypeId}
    {pos : String} {after : Array Edge} {l : List (Nat × Operand)} (hs : (P.built t (l.map fun x => (x.1, a.eval x.2))).isSome = true)
    (h : wpList P ops Q rest (a.put (some d) (.agg (builtOf P t (l.map fun x => (x.1, a.eval x.2))))) w) :
    wpList P ops Q ({ dst := some d, op := .build t l.toArray, type := ty, pos := pos, after := after, guard := none } :: rest) a w := by
  refine wpList_plain rfl fun K hK => ?_
  have e : (l.toArray.map fun (i, x) => (i, a.eval x)).toList = l.map fun x => (x.1, a.eval x.2) := by simp
  refine wp_build t l.toArray rfl (by rw [e]; exact hs) ?_
  rw [e]
  exact hK _ _ h
end Go.Proofs.YtghofdhhhbbaaaaGreatDoor.Base

