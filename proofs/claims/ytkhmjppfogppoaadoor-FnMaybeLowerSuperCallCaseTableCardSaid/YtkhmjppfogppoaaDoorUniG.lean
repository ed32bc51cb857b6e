/- A super property read, in any context. No condition. -/
import Derived.Test.YtkhmjppfogppoaaDoorGetF0
import Derived.Test.YtkhmjppfogppoaaDoorGetF1
import Derived.Test.YtkhmjppfogppoaaDoorLive
import Derived.Test.YtkhmjppfogppoaaDoorApp
import Derived.Test.YtkhmjppfogppoaaDoorOwnK
import Derived.Test.YtkhmjppfogppoaaDoorOwn
import Derived.Test.YtkhmjppfogppoaaDoorDeepCells
import Derived.Test.YtkhmjppfogppoaaDoorRows
import Derived.Test.YtkhmjppfogppoaaDoorUse
namespace Go.Proofs.YtkhmjppfogppoaaDoor.Use
open Go.ChangeShapes Go.WideShapes Go.ChangeAt Go.RowKit Go.Sort Own
set_option linter.unusedVariables false
/-- The class's uses behind one super property. -/
def uz (r : Bool) (u : Nat) : Nat := if r then u + 2 else u + 1
/-- The class argument: an identifier (static) or its prototype. -/
def clsTy (s : Bool) : Nat := if s then 209 else 225
def clsT (s : Bool) : Nat := if s then 211 else 228
def clsC (s : Bool) (loc : Int) (xb : Nat) : Array Value := if s then #[.int .u32 0, .int .u32 0, .bool false, .bool false, .bool false] else #[.iface 209 (.pointer (some ⟨xb, 0, none⟩)), .int .i32 loc, .string ⟨#[112, 114, 111, 116, 111, 116, 121, 112, 101]⟩, .int .i32 loc, .int .u8 0, .bool false, .bool false, .bool false]
def xtrT (s : Bool) : Nat := if s then 35 else 211
def xtrC (s : Bool) (loc : Int) (cb : Nat) : Array Value := if s then #[.iface 209 (.pointer (some ⟨cb, 0, none⟩)), .int .i32 loc] else #[.int .u32 0, .int .u32 0, .bool false, .bool false, .bool false]
/-- The this argument: an identifier (replaced) or this. -/
def thsTy (r : Bool) : Nat := if r then 209 else 237
def thsT (r : Bool) : Nat := if r then 211 else 241
def thsC (r : Bool) : Array Value := if r then #[.int .u32 0, .int .u32 0, .bool false, .bool false, .bool false] else #[]

def uGetFPost (pb : Nat) (PC : Array Value) (sb c mp ms : Nat) (MC : Array Value) (cr : Nat) (loc : Int) (r s : Bool) (kT kx : Nat) (kl : Int) (w0 : World) (X : Nat → Obj → Prop) (e : Ending) (w' : World) : Prop :=
  ∃ ca : Nat, ∃ b : Nat, ∃ sx : Nat, ∃ cb : Nat, ∃ xb : Nat, ∃ tb : Nat, ∃ sb2 : Nat, ∃ c2 : Nat, ∃ gb2 : Nat, ∃ cg2 : Nat, e = .returned (.agg #[.iface 65 (.pointer (some ⟨ca, 0, none⟩)), .int .i32 loc]) ∧ Own w0 w' [row (pb) 193 (PC.setIfInBounds 106 (.slice (some ⟨sb2, 0, none⟩) 2 (2 + c2))), row (sb2) 56 (full symZ (symL ([sy ⟨#[70, 111, 111]⟩ (uz r 0), sy ⟨#[95, 95, 115, 117, 112, 101, 114, 71, 101, 116]⟩ 1])) c2), ((mp, .map #[⟨.string ⟨#[95, 95, 115, 117, 112, 101, 114, 71, 101, 116]⟩, .agg #[.int .i32 loc, .int .u32 0, .int .u32 1], 0⟩] 1) : Rw), row (ms) 203 (MC.setIfInBounds 5 (.slice (some ⟨gb2, 0, none⟩) 1 (1 + cg2))), row (gb2) 25 (full refZ ([.int .u32 0, .int .u32 1]) cg2), row (cr) 25 #[.int .u32 0, .int .u32 0], row (b) 211 #[.int .u32 0, .int .u32 1, .bool false, .bool false, .bool false], row (ca) 71 #[.iface 209 (.pointer (some ⟨b, 0, none⟩)), .int .i32 loc, .slice (some ⟨sx, 0, none⟩) 3 3, .int .i32 0, .int .u8 0, .int .u8 0, .bool false, .bool false], row (sx) 35 #[.iface (clsTy s) (.pointer (some ⟨cb, 0, none⟩)), .int .i32 loc, .iface (thsTy r) (.pointer (some ⟨tb, 0, none⟩)), .int .i32 loc, .iface kT (.pointer (some ⟨kx, 0, none⟩)), .int .i32 kl], row (cb) (clsT s) (clsC s loc xb), row (xb) (xtrT s) (xtrC s loc cb), row (tb) (thsT r) (thsC r)] X
set_option maxRecDepth 100000 in
theorem uGetF (pb : Nat) (PC : Array Value) (sb c mp ms : Nat) (MC : Array Value) (cr : Nat) (loc : Int) (r s : Bool) (kT kx : Nat) (kl : Int) (w0 w : World) (X : Nat → Obj → Prop) (hO : Own w0 w [row (pb) 193 PC, row (sb) 56 (full symZ (symL ([sy ⟨#[70, 111, 111]⟩ 0])) c), ((mp, .map #[] 0) : Rw), row (ms) 203 MC, row (cr) 25 #[.int .u32 0, .int .u32 0]] X) (hk350 : PC[350]? = some (.bool false)) (hk32 : PC[32]? = some (.bool false)) (hk105 : PC[105]? = some (.pointer none)) (hk66 : PC[66]? = some (.int .u32 0)) (hk117 : PC[117]? = some (.map (some mp))) (hk187 : PC[187]? = some (.pointer (some ⟨ms, 0, none⟩))) (hk97 : PC[97]? = some (.pointer (some ⟨cr, 0, none⟩))) (hk95 : PC[95]? = some (.bool r)) (hk96 : PC[96]? = some (.bool s)) (hk106 : PC[106]? = some (.slice (some ⟨sb, 0, none⟩) 1 (1 + c))) (hgen : MC[5]? = some (.slice none 0 0)) (hg0 : w0.cell? ⟨0, 0, none⟩ = some (.int .u32 4294967295)) (hg1 : w0.cell? ⟨0, 1, none⟩ = some (.int .u32 4294967295)) :
    Calls Tryd.prog 52 #[.pointer (some ⟨pb, 0, none⟩), .agg #[.int .i32 loc], .agg #[.iface kT (.pointer (some ⟨kx, 0, none⟩)), .int .i32 kl]] w (uGetFPost pb PC sb c mp ms MC cr loc r s kT kx kl w0 X) := by
  cases r <;> cases s
  · refine Calls.mono (supGetniF0i0 pb PC sb c mp ms MC cr loc kT kx kl _ _ _ hO hk350 hk32 hk105 hk66 hk117 hk187 hk97 hk95 hk96 hk106 hgen hg0 hg1) ?_
    rintro e w' ⟨ca, b, sx, i1, th, d1, sb2, c2, gb2, cg2, rfl, hQ⟩
    exact ⟨ca, b, sx, d1, i1, th, sb2, c2, gb2, cg2, rfl, hQ.sub [0, 1, 2, 3, 4, 5, 6, 7, 8, 11, 9, 10] (by decide)⟩
  · refine Calls.mono (supGetnsF0i0 pb PC sb c mp ms MC cr loc kT kx kl _ _ _ hO hk350 hk32 hk105 hk66 hk117 hk187 hk97 hk95 hk96 hk106 hgen hg0 hg1) ?_
    rintro e w' ⟨ca, b, sx, i1, th, sb2, c2, gb2, cg2, xb, rfl, hQ⟩
    exact ⟨ca, b, sx, i1, xb, th, sb2, c2, gb2, cg2, rfl, hQ.sub [0, 1, 2, 3, 4, 5, 6, 7, 8, 9, 11, 10] (by decide)⟩
  · refine Calls.mono (supGetriF0i0 pb PC sb c mp ms MC cr loc kT kx kl _ _ _ hO hk350 hk32 hk105 hk66 hk117 hk187 hk97 hk95 hk96 hk106 hgen hg0 hg1) ?_
    rintro e w' ⟨ca, b, sx, i1, i2, d1, sb2, c2, gb2, cg2, rfl, hQ⟩
    exact ⟨ca, b, sx, d1, i1, i2, sb2, c2, gb2, cg2, rfl, hQ.sub [0, 1, 2, 3, 4, 5, 6, 7, 8, 11, 9, 10] (by decide)⟩
  · refine Calls.mono (supGetrsF0i0 pb PC sb c mp ms MC cr loc kT kx kl _ _ _ hO hk350 hk32 hk105 hk66 hk117 hk187 hk97 hk95 hk96 hk106 hgen hg0 hg1) ?_
    rintro e w' ⟨ca, b, sx, i1, i2, sb2, c2, gb2, cg2, xb, rfl, hQ⟩
    exact ⟨ca, b, sx, i1, xb, i2, sb2, c2, gb2, cg2, rfl, hQ.sub [0, 1, 2, 3, 4, 5, 6, 7, 8, 9, 11, 10] (by decide)⟩

end Go.Proofs.YtkhmjppfogppoaaDoor.Use
