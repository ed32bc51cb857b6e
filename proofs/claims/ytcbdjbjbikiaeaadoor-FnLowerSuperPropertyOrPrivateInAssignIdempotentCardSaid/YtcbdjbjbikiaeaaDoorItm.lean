/- Items of an array pattern that are not lowered. No condition. -/
import Derived.Test.YtcbdjbjbikiaeaaDoorOwn
import Derived.Test.YtcbdjbjbikiaeaaDoorOwnK
import Derived.Test.YtcbdjbjbikiaeaaDoorLoop
import Derived.Test.YtcbdjbjbikiaeaaDoorApp
import Derived.Test.YtcbdjbjbikiaeaaDoorDeepCells
import Derived.Test.YtcbdjbjbikiaeaaDoorRows
import Derived.Test.YtcbdjbjbikiaeaaDoorDead
namespace Go.Proofs.YtcbdjbjbikiaeaaDoor.Use
open Go.ChangeShapes Go.WideShapes Go.ChangeAt Go.RowKit Go.Sort Own
set_option linter.unusedVariables false
/-- A dot node in the frame whose target is no 'super' where supers are lowered. -/
def DotC (X : Nat → Obj → Prop) (l : Bool) (d : Nat) : Prop := ∃ (kT kx : Nat) (tl nl : Int) (nm : ByteArray), (l = true → kT ≠ 244) ∧ X d (.cells #[.iface kT (.pointer (some ⟨kx, 0, none⟩)), .int .i32 tl, .string nm, .int .i32 nl, .int .u8 0, .bool false, .bool false, .bool false] 44 (0, 0))
def IxC (X : Nat → Obj → Prop) (d : Nat) : Prop := ∃ (kT kx ib : Nat) (tl il : Int), X d (.cells #[.iface kT (.pointer (some ⟨kx, 0, none⟩)), .int .i32 tl, .iface 220 (.pointer (some ⟨ib, 0, none⟩)), .int .i32 il, .int .i32 0, .int .u8 0, .bool false, .bool false, .bool false] 211 (0, 0))
/-- An item that lowering leaves as it is. -/
def ColdV (X : Nat → Obj → Prop) (l : Bool) (t b : Nat) : Prop :=
  (t = 40 ∧ DotC X l b) ∨ (t = 209 ∧ l = false ∧ IxC X b) ∨ (t = 227 ∧ ∃ (d : Nat) (dl : Int), X b (.cells #[.iface 40 (.pointer (some ⟨d, 0, none⟩)), .int .i32 dl] 234 (0, 0)) ∧ DotC X l d) ∨ t = 220 ∨
  (t = 229 ∧ ∃ (pp d : Nat) (dl : Int), X b (.cells #[.slice (some ⟨pp, 0, none⟩) 1 1, .int .i32 0, .int .i32 0, .bool false, .bool false] 237 (0, 0)) ∧ X pp (.cells #[.pointer none, .nilIface, .int .i32 0, .iface 40 (.pointer (some ⟨d, 0, none⟩)), .int .i32 dl, .nilIface, .int .i32 0, .slice none 0 0, .int .i32 0, .int .i32 0, .int .u8 0, .int .u8 0] 243 (0, 0)) ∧ DotC X l d)
theorem DotC.mono {X Y : Nat → Obj → Prop} (h : ∀ b o, X b o → Y b o) {l : Bool} {d : Nat} : DotC X l d → DotC Y l d := fun ⟨kT, kx, tl, nl, nm, h1, h2⟩ => ⟨kT, kx, tl, nl, nm, h1, h _ _ h2⟩
theorem IxC.mono {X Y : Nat → Obj → Prop} (h : ∀ b o, X b o → Y b o) {d : Nat} : IxC X d → IxC Y d := fun ⟨kT, kx, ib, tl, il, h2⟩ => ⟨kT, kx, ib, tl, il, h _ _ h2⟩
theorem ColdV.mono {X Y : Nat → Obj → Prop} (h : ∀ b o, X b o → Y b o) {l : Bool} {t b : Nat} : ColdV X l t b → ColdV Y l t b := by
  rintro (⟨h1, h2⟩ | ⟨h1, h2, h3⟩ | ⟨h1, d, dl, h2, h3⟩ | h1 | ⟨h1, pp, d, dl, h2, h3, h4⟩)
  · exact Or.inl ⟨h1, h2.mono h⟩
  · exact Or.inr (Or.inl ⟨h1, h2, h3.mono h⟩)
  · exact Or.inr (Or.inr (Or.inl ⟨h1, d, dl, h _ _ h2, h3.mono h⟩))
  · exact Or.inr (Or.inr (Or.inr (Or.inl h1)))
  · exact Or.inr (Or.inr (Or.inr (Or.inr ⟨h1, pp, d, dl, h _ _ h2, h _ _ h3, h4.mono h⟩)))

end Go.Proofs.YtcbdjbjbikiaeaaDoor.Use
