/- Small laws of the walk that the seat's texts share: a type assertion to a pointer type with the comma-ok form. No condition. -/
import Derived.WalkKit
import Derived.WalkLawsBesides
import Derived.WalkSpells
import Derived.ProofKit
import Derived.Below
import Derived.Handy
import Derived.Lib.Hide
namespace Go.Proofs.Ytcnfpoahlhlknaa.Kit

def isPtr : Option TypeDesc → Bool
  | some (.pointer _) => true
  | _ => false
@[simp] theorem isPtr_some (e : TypeId) : isPtr (some (.pointer e)) = true := rfl
theorem isPtr_inv {d : Option TypeDesc} (h : isPtr d = true) : ∃ e, d = some (.pointer e) := by
  cases d with
  | none => cases h
  | some d => cases d <;> first | (exact ⟨_, rfl⟩) | cases h

section
variable {P : Program} (w : World)
@[go_sem] theorem run_typeAssert_ptr (t u xT : TypeId) (v : Value) (hu : isPtr (P.underlying u) = true)
    (hz : (zeroValue u).run P w = .ok (.pointer none) w) :
    (Instr.typeAssert (.iface t v) xT u true).run P w = .ok (.tuple #[if t = u then v else .pointer none, .bool (decide (t = u))]) w := by
  obtain ⟨e, he⟩ := isPtr_inv hu
  by_cases h : t = u <;> simp [Instr.typeAssert, run_underlying he, hz, h]
@[go_sem] theorem run_typeAssert_nil (u xT : TypeId) (hu : isPtr (P.underlying u) = true)
    (hz : (zeroValue u).run P w = .ok (.pointer none) w) :
    (Instr.typeAssert .nilIface xT u true).run P w = .ok (.tuple #[.pointer none, .bool false]) w := by
  obtain ⟨e, he⟩ := isPtr_inv hu
  simp [Instr.typeAssert, run_underlying he, hz]
end
end Go.Proofs.Ytcnfpoahlhlknaa.Kit
