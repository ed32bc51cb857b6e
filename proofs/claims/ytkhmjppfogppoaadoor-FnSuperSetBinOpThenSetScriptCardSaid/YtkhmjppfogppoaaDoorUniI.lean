/- A super property set, both helpers imported already, in any context. No condition. -/
import Derived.Test.YtkhmjppfogppoaaDoorUni
import Derived.Test.YtkhmjppfogppoaaDoorSetI0
import Derived.Test.YtkhmjppfogppoaaDoorSetI1
import Derived.Test.YtkhmjppfogppoaaDoorLiveH
import Derived.Test.YtkhmjppfogppoaaDoorLive
import Derived.Test.YtkhmjppfogppoaaDoorApp
import Derived.Test.YtkhmjppfogppoaaDoorOwnK
import Derived.Test.YtkhmjppfogppoaaDoorOwn
import Derived.Test.YtkhmjppfogppoaaDoorDeepCells
import Derived.Test.YtkhmjppfogppoaaDoorRows
import Derived.Test.YtkhmjppfogppoaaDoorUse
namespace Go.Proofs.YtkhmjppfogppoaaDoor.Use
open Go.ChangeShapes Go.WideShapes Go.ChangeAt Go.RowKit Go.Sort Own
set_option linter.unusedVariables false
def uSetIPost (pb : Nat) (PC : Array Value) (sb c mp ms : Nat) (MC : Array Value) (cr : Nat) (loc : Int) (gb cg : Nat) (r s : Bool) (kT kx : Nat) (kl : Int) (vT vx : Nat) (vl : Int) (w0 : World) (X : Nat → Obj → Prop) (e : Ending) (w' : World) : Prop :=
  ∃ ca : Nat, ∃ b : Nat, ∃ sx : Nat, ∃ cb : Nat, ∃ xb : Nat, ∃ tb : Nat, e = .returned (.agg #[.iface 65 (.pointer (some ⟨ca, 0, none⟩)), .int .i32 loc]) ∧ Own w0 w' [row (pb) 193 PC, row (sb) 56 (full symZ (symL ([sy ⟨#[70, 111, 111]⟩ (uz r (uz r (uz r 0))), sy ⟨#[95, 95, 115, 117, 112, 101, 114, 71, 101, 116]⟩ 1, sy ⟨#[95, 95, 115, 117, 112, 101, 114, 83, 101, 116]⟩ 2])) c), ((mp, .map #[⟨.string ⟨#[95, 95, 115, 117, 112, 101, 114, 71, 101, 116]⟩, .agg #[.int .i32 loc, .int .u32 0, .int .u32 1], 0⟩, ⟨.string ⟨#[95, 95, 115, 117, 112, 101, 114, 83, 101, 116]⟩, .agg #[.int .i32 loc, .int .u32 0, .int .u32 2], 1⟩] 2) : Rw), row (ms) 203 MC, row (gb) 25 (full refZ ([.int .u32 0, .int .u32 1, .int .u32 0, .int .u32 2]) cg), row (cr) 25 #[.int .u32 0, .int .u32 0], row (b) 211 #[.int .u32 0, .int .u32 2, .bool false, .bool false, .bool false], row (ca) 71 #[.iface 209 (.pointer (some ⟨b, 0, none⟩)), .int .i32 loc, .slice (some ⟨sx, 0, none⟩) 4 4, .int .i32 0, .int .u8 0, .int .u8 0, .bool false, .bool false], row (sx) 35 #[.iface (clsTy s) (.pointer (some ⟨cb, 0, none⟩)), .int .i32 loc, .iface (thsTy r) (.pointer (some ⟨tb, 0, none⟩)), .int .i32 loc, .iface kT (.pointer (some ⟨kx, 0, none⟩)), .int .i32 kl, .iface vT (.pointer (some ⟨vx, 0, none⟩)), .int .i32 vl], row (cb) (clsT s) (clsC s loc xb), row (xb) (xtrT s) (xtrC s loc cb), row (tb) (thsT r) (thsC r)] X
set_option maxRecDepth 100000 in
theorem uSetI (pb : Nat) (PC : Array Value) (sb c mp ms : Nat) (MC : Array Value) (cr : Nat) (loc : Int) (gb cg : Nat) (r s : Bool) (kT kx : Nat) (kl : Int) (vT vx : Nat) (vl : Int) (w0 w : World) (X : Nat → Obj → Prop) (hO : Own w0 w [row (pb) 193 PC, row (sb) 56 (full symZ (symL ([sy ⟨#[70, 111, 111]⟩ (uz r (uz r 0)), sy ⟨#[95, 95, 115, 117, 112, 101, 114, 71, 101, 116]⟩ 1, sy ⟨#[95, 95, 115, 117, 112, 101, 114, 83, 101, 116]⟩ 1])) c), ((mp, .map #[⟨.string ⟨#[95, 95, 115, 117, 112, 101, 114, 71, 101, 116]⟩, .agg #[.int .i32 loc, .int .u32 0, .int .u32 1], 0⟩, ⟨.string ⟨#[95, 95, 115, 117, 112, 101, 114, 83, 101, 116]⟩, .agg #[.int .i32 loc, .int .u32 0, .int .u32 2], 1⟩] 2) : Rw), row (ms) 203 MC, row (gb) 25 (full refZ ([.int .u32 0, .int .u32 1, .int .u32 0, .int .u32 2]) cg), row (cr) 25 #[.int .u32 0, .int .u32 0]] X) (hk350 : PC[350]? = some (.bool false)) (hk32 : PC[32]? = some (.bool false)) (hk105 : PC[105]? = some (.pointer none)) (hk66 : PC[66]? = some (.int .u32 0)) (hk117 : PC[117]? = some (.map (some mp))) (hk187 : PC[187]? = some (.pointer (some ⟨ms, 0, none⟩))) (hk97 : PC[97]? = some (.pointer (some ⟨cr, 0, none⟩))) (hk95 : PC[95]? = some (.bool r)) (hk96 : PC[96]? = some (.bool s)) (hk106 : PC[106]? = some (.slice (some ⟨sb, 0, none⟩) 3 (3 + c))) (hgen : MC[5]? = some (.slice (some ⟨gb, 0, none⟩) 2 (2 + cg))) (hg0 : w0.cell? ⟨0, 0, none⟩ = some (.int .u32 4294967295)) (hg1 : w0.cell? ⟨0, 1, none⟩ = some (.int .u32 4294967295)) :
    Calls Tryd.prog 38 #[.pointer (some ⟨pb, 0, none⟩), .agg #[.int .i32 loc], .agg #[.iface kT (.pointer (some ⟨kx, 0, none⟩)), .int .i32 kl], .agg #[.iface vT (.pointer (some ⟨vx, 0, none⟩)), .int .i32 vl]] w (uSetIPost pb PC sb c mp ms MC cr loc gb cg r s kT kx kl vT vx vl w0 X) := by
  cases r <;> cases s
  · refine Calls.mono (supSetniF2G1S1i2 pb PC sb c mp ms MC cr loc gb cg kT kx kl vT vx vl _ _ _ hO hk350 hk32 hk105 hk66 hk117 hk187 hk97 hk95 hk96 hk106 hgen hg0 hg1) ?_
    rintro e w' ⟨ca, b, sx, i1, th, d1, rfl, hQ⟩
    exact ⟨ca, b, sx, d1, i1, th, rfl, hQ.sub [0, 1, 2, 3, 4, 5, 6, 7, 8, 11, 9, 10] (by decide)⟩
  · refine Calls.mono (supSetnsF2G1S1i2 pb PC sb c mp ms MC cr loc gb cg kT kx kl vT vx vl _ _ _ hO hk350 hk32 hk105 hk66 hk117 hk187 hk97 hk95 hk96 hk106 hgen hg0 hg1) ?_
    rintro e w' ⟨ca, b, sx, i1, th, xb, rfl, hQ⟩
    exact ⟨ca, b, sx, i1, xb, th, rfl, hQ.sub [0, 1, 2, 3, 4, 5, 6, 7, 8, 9, 11, 10] (by decide)⟩
  · refine Calls.mono (supSetriF4G1S1i2 pb PC sb c mp ms MC cr loc gb cg kT kx kl vT vx vl _ _ _ hO hk350 hk32 hk105 hk66 hk117 hk187 hk97 hk95 hk96 hk106 hgen hg0 hg1) ?_
    rintro e w' ⟨ca, b, sx, i1, i2, d1, rfl, hQ⟩
    exact ⟨ca, b, sx, d1, i1, i2, rfl, hQ.sub [0, 1, 2, 3, 4, 5, 6, 7, 8, 11, 9, 10] (by decide)⟩
  · refine Calls.mono (supSetrsF4G1S1i2 pb PC sb c mp ms MC cr loc gb cg kT kx kl vT vx vl _ _ _ hO hk350 hk32 hk105 hk66 hk117 hk187 hk97 hk95 hk96 hk106 hgen hg0 hg1) ?_
    rintro e w' ⟨ca, b, sx, i1, i2, xb, rfl, hQ⟩
    exact ⟨ca, b, sx, i1, xb, i2, rfl, hQ.sub [0, 1, 2, 3, 4, 5, 6, 7, 8, 9, 11, 10] (by decide)⟩

end Go.Proofs.YtkhmjppfogppoaaDoor.Use
