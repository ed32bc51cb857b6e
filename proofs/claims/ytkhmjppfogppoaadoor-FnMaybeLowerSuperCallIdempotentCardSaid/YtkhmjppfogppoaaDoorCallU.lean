/- A super call of any kind, built. No condition. -/
import Derived.Test.YtkhmjppfogppoaaDoorCall
import Derived.Test.YtkhmjppfogppoaaDoorLoop
import Derived.Test.YtkhmjppfogppoaaDoorLive
import Derived.Test.YtkhmjppfogppoaaDoorApp
import Derived.Test.YtkhmjppfogppoaaDoorOwnK
import Derived.Test.YtkhmjppfogppoaaDoorOwn
import Derived.Test.YtkhmjppfogppoaaDoorDeepCells
import Derived.Test.YtkhmjppfogppoaaDoorRows
import Derived.Test.YtkhmjppfogppoaaDoorUse
namespace Go.Proofs.YtkhmjppfogppoaaDoor.Use
open Go.ChangeShapes Go.WideShapes Go.ChangeAt Go.RowKit Go.Sort Own
set_option linter.unusedVariables false
/-- The four kinds of calls: their numbers, the nodes of their targets. -/
def kn (k1 k0 : Bool) : Int := match k1, k0 with | false, false => 0 | false, true => 1 | true, false => 2 | true, true => 3
def tgTy (k1 k0 : Bool) : Nat := match k1, k0 with | false, false => 225 | false, true => 231 | true, false => 225 | true, true => 209
def tgT (k1 k0 : Bool) : Nat := match k1, k0 with | false, false => 228 | false, true => 234 | true, false => 228 | true, true => 211
def tgC (k1 k0 : Bool) (name : ByteArray) (loc im : Int) (sp ib : Nat) : Array Value := match k1, k0 with
  | false, false => #[.iface 229 (.pointer (some ⟨sp, 0, none⟩)), .int .i32 loc, .string name, .int .i32 loc, .int .u8 0, .bool false, .bool false, .bool false]
  | false, true => #[.iface 229 (.pointer (some ⟨sp, 0, none⟩)), .int .i32 loc, .iface 209 (.pointer (some ⟨ib, 0, none⟩)), .int .i32 loc, .int .i32 0, .int .u8 0, .bool false, .bool false, .bool false]
  | true, false => #[.iface 209 (.pointer (some ⟨ib, 0, none⟩)), .int .i32 loc, .string name, .int .i32 loc, .int .u8 0, .bool false, .bool false, .bool false]
  | true, true => #[.int .u32 5, .int .u32 im, .bool false, .bool false, .bool false]
def tgN (k1 k0 : Bool) (name : ByteArray) : ByteArray := match k1, k0 with | false, false => name | true, false => name | _, _ => ⟨#[]⟩
def tgD (k1 k0 : Bool) : Bool := !k0
def tgE (k1 k0 : Bool) (loc : Int) (sp ib : Nat) : Value := match k1, k0 with | false, false => .agg #[.iface 229 (.pointer (some ⟨sp, 0, none⟩)), .int .i32 loc] | true, false => .agg #[.iface 209 (.pointer (some ⟨ib, 0, none⟩)), .int .i32 loc] | _, _ => .agg exprZ
def kyT (k0 : Bool) : Nat := if k0 then 209 else 206

def buildCallPost (kind : Int) (name : ByteArray) (n : Nat) (loc im : Int) (k1 k0 : Bool) (w0 : World) (X : Nat → Obj → Prop) (e : Ending) (w' : World) : Prop :=
  ∃ ec : Nat, ∃ tg : Nat, ∃ sp : Nat, ∃ ib : Nat, ∃ ab : Nat, ∃ blk : Nat → Nat, e = .returned (.pointer (some ⟨ec, 0, none⟩)) ∧ Own w0 w' [row (ec) 71 #[.iface (tgTy k1 k0) (.pointer (some ⟨tg, 0, none⟩)), .int .i32 loc, .slice (some ⟨ab, 0, none⟩) n n, .int .i32 0, .int .u8 0, .int .u8 0, .bool false, .bool false], row (tg) (tgT k1 k0) (tgC k1 k0 name loc im sp ib), row (ab) 35 ((args loc blk n).toArray)] X
set_option maxRecDepth 100000 in
theorem buildCall (kind : Int) (name : ByteArray) (n : Nat) (loc im : Int) (k1 k0 : Bool) (w0 w : World) (X : Nat → Obj → Prop) (hO : Own w0 w [] X) (hkd : kind.tmod 4 = kn k1 k0) (hn : n ≤ 4096) :
    Calls Tryd.prog 28 #[.int .u8 kind, .string name, .int .i64 (n : Int), .int .i32 loc, .int .u32 im] w (buildCallPost kind name n loc im k1 k0 w0 X) := by
  cases k1 <;> cases k0
  · refine Calls.mono (buildCallX0 kind name n loc im _ _ _ hO hkd hn) ?_
    rintro e w' ⟨ec, tg, sp, ab, ib, blk, rfl, hQ⟩
    exact ⟨ec, tg, sp, ib, ab, blk, rfl, (hQ.weaken (fun _ _ => Or.inl)).sub [0, 1, 2] (by decide)⟩
  · refine Calls.mono (buildCallX1 kind name n loc im _ _ _ hO hkd hn) ?_
    rintro e w' ⟨ec, tg, sp, ab, ib, blk, rfl, hQ⟩
    exact ⟨ec, tg, sp, ib, ab, blk, rfl, (hQ.weaken (fun _ _ => Or.inl)).sub [0, 1, 2] (by decide)⟩
  · refine Calls.mono (buildCallX2 kind name n loc im _ _ _ hO hkd hn) ?_
    rintro e w' ⟨ec, tg, ab, ib, blk, rfl, hQ⟩
    exact ⟨ec, tg, 0, ib, ab, blk, rfl, (hQ.weaken (fun _ _ => Or.inl)).sub [0, 1, 2] (by decide)⟩
  · refine Calls.mono (buildCallX3 kind name n loc im _ _ _ hO hkd hn) ?_
    rintro e w' ⟨ec, ab, ib, blk, rfl, hQ⟩
    exact ⟨ec, ib, 0, ib, ab, blk, rfl, (hQ.weaken (fun _ _ => Or.inl)).sub [0, 2, 1] (by decide)⟩

end Go.Proofs.YtkhmjppfogppoaaDoor.Use
