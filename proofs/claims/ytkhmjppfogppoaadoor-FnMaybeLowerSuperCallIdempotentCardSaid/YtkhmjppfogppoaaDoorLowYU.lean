/- A super call of either kind, lowered. No condition. -/
import Derived.Test.YtkhmjppfogppoaaDoorLowY
import Derived.Test.YtkhmjppfogppoaaDoorLoop
import Derived.Test.YtkhmjppfogppoaaDoorLive
import Derived.Test.YtkhmjppfogppoaaDoorApp
import Derived.Test.YtkhmjppfogppoaaDoorOwnK
import Derived.Test.YtkhmjppfogppoaaDoorOwn
import Derived.Test.YtkhmjppfogppoaaDoorDeepCells
import Derived.Test.YtkhmjppfogppoaaDoorRows
import Derived.Test.YtkhmjppfogppoaaDoorUse
namespace Go.Proofs.YtkhmjppfogppoaaDoor.Use
open Go.ChangeShapes Go.WideShapes Go.ChangeAt Go.RowKit Go.Sort Own
set_option linter.unusedVariables false
def lowYesPost (pb : Nat) (PC : Array Value) (sb c mp ms : Nat) (MC : Array Value) (cr : Nat) (loc : Int) (r s k0 : Bool) (name : ByteArray) (im : Int) (sp ib ec tg ab : Nat) (blk : Nat → Nat) (n : Nat) (w0 : World) (X : Nat → Obj → Prop) (e : Ending) (w' : World) : Prop :=
  ∃ ca : Nat, ∃ b : Nat, ∃ sx : Nat, ∃ cb : Nat, ∃ xb : Nat, ∃ tb : Nat, ∃ sb2 : Nat, ∃ c2 : Nat, ∃ gb2 : Nat, ∃ cg2 : Nat, ∃ td : Nat, ∃ t2 : Nat, ∃ nb : Nat, ∃ cn : Nat, ∃ kx : Nat, e = .returned (.tuple #[]) ∧ Own w0 w' [row (pb) 193 (PC.setIfInBounds 106 (.slice (some ⟨sb2, 0, none⟩) 2 (2 + c2))), row (sb2) 56 (full symZ (symL ([sy ⟨#[70, 111, 111]⟩ (uz r 0), sy ⟨#[95, 95, 115, 117, 112, 101, 114, 71, 101, 116]⟩ 1])) c2), ((mp, .map #[⟨.string ⟨#[95, 95, 115, 117, 112, 101, 114, 71, 101, 116]⟩, .agg #[.int .i32 loc, .int .u32 0, .int .u32 1], 0⟩] 1) : Rw), row (ms) 203 (MC.setIfInBounds 5 (.slice (some ⟨gb2, 0, none⟩) 1 (1 + cg2))), row (gb2) 25 (full refZ ([.int .u32 0, .int .u32 1]) cg2), row (cr) 25 #[.int .u32 0, .int .u32 0], row (b) 211 #[.int .u32 0, .int .u32 1, .bool false, .bool false, .bool false], row (ca) 71 #[.iface 209 (.pointer (some ⟨b, 0, none⟩)), .int .i32 loc, .slice (some ⟨sx, 0, none⟩) 3 3, .int .i32 0, .int .u8 0, .int .u8 0, .bool false, .bool false], row (sx) 35 #[.iface (clsTy s) (.pointer (some ⟨cb, 0, none⟩)), .int .i32 loc, .iface (thsTy r) (.pointer (some ⟨tb, 0, none⟩)), .int .i32 loc, .iface (kyT k0) (.pointer (some ⟨kx, 0, none⟩)), .int .i32 loc], row (cb) (clsT s) (clsC s loc xb), row (xb) (xtrT s) (xtrC s loc cb), row (tb) (thsT r) (thsC r), row (ec) 71 #[.iface 225 (.pointer (some ⟨td, 0, none⟩)), .int .i32 loc, .slice (some ⟨nb, 0, none⟩) (1 + n) (1 + n + cn), .int .i32 0, .int .u8 0, .int .u8 0, .bool false, .bool false], row (td) 228 #[.iface 65 (.pointer (some ⟨ca, 0, none⟩)), .int .i32 loc, .string ⟨#[99, 97, 108, 108]⟩, .int .i32 loc, .int .u8 0, .bool false, .bool false, .bool false], row (nb) 35 (full exprZ ([.iface 237 (.pointer (some ⟨t2, 0, none⟩)), .int .i32 loc] ++ (args loc blk n)) cn)] X
set_option maxRecDepth 100000 in
theorem lowYes (pb : Nat) (PC : Array Value) (sb c mp ms : Nat) (MC : Array Value) (cr : Nat) (loc : Int) (r s k0 : Bool) (name : ByteArray) (im : Int) (sp ib ec tg ab : Nat) (blk : Nat → Nat) (n : Nat) (w0 w : World) (X : Nat → Obj → Prop) (hO : Own w0 w [row (pb) 193 PC, row (sb) 56 (full symZ (symL ([sy ⟨#[70, 111, 111]⟩ 0])) c), ((mp, .map #[] 0) : Rw), row (ms) 203 MC, row (cr) 25 #[.int .u32 0, .int .u32 0], row (ec) 71 #[.iface (tgTy false k0) (.pointer (some ⟨tg, 0, none⟩)), .int .i32 loc, .slice (some ⟨ab, 0, none⟩) n n, .int .i32 0, .int .u8 0, .int .u8 0, .bool false, .bool false], row (tg) (tgT false k0) (tgC false k0 name loc im sp ib), row (ab) 35 ((args loc blk n).toArray)] X) (hk350 : PC[350]? = some (.bool false)) (hk32 : PC[32]? = some (.bool false)) (hk105 : PC[105]? = some (.pointer none)) (hk66 : PC[66]? = some (.int .u32 0)) (hk117 : PC[117]? = some (.map (some mp))) (hk187 : PC[187]? = some (.pointer (some ⟨ms, 0, none⟩))) (hk97 : PC[97]? = some (.pointer (some ⟨cr, 0, none⟩))) (hk95 : PC[95]? = some (.bool r)) (hk96 : PC[96]? = some (.bool s)) (hk106 : PC[106]? = some (.slice (some ⟨sb, 0, none⟩) 1 (1 + c))) (hgen : MC[5]? = some (.slice none 0 0)) (hk338 : PC[338]? = some (.bool true)) (hn : n ≤ 4096) (hlen : name.size ≤ 65536) (hg0 : w0.cell? ⟨0, 0, none⟩ = some (.int .u32 4294967295)) (hg1 : w0.cell? ⟨0, 1, none⟩ = some (.int .u32 4294967295)) :
    Calls Tryd.prog 47 #[.pointer (some ⟨pb, 0, none⟩), .pointer (some ⟨ec, 0, none⟩)] w (lowYesPost pb PC sb c mp ms MC cr loc r s k0 name im sp ib ec tg ab blk n w0 X) := by
  cases k0
  · refine Calls.mono (lowY0 pb PC sb c mp ms MC cr loc r s tg sp name ec ab blk n _ _ _ hO hk350 hk32 hk105 hk66 hk117 hk187 hk97 hk95 hk96 hk106 hgen hk338 hn hlen hg0 hg1) ?_
    rintro e w' ⟨ca, b, sx, cb, xb, tb, sb2, c2, gb2, cg2, td, t2, nb, cn, sk, ub, ln, cp, rfl, hQ⟩
    exact ⟨ca, b, sx, cb, xb, tb, sb2, c2, gb2, cg2, td, t2, nb, cn, sk, rfl, hQ.sub [0, 1, 2, 3, 4, 5, 6, 7, 8, 9, 10, 11, 12, 13, 14] (by decide)⟩
  · refine Calls.mono (lowY1 pb PC sb c mp ms MC cr loc r s tg sp ib ec ab blk n _ _ _ hO hk350 hk32 hk105 hk66 hk117 hk187 hk97 hk95 hk96 hk106 hgen hk338 hn hg0 hg1) ?_
    rintro e w' ⟨ca, b, sx, cb, xb, tb, sb2, c2, gb2, cg2, td, t2, nb, cn, rfl, hQ⟩
    exact ⟨ca, b, sx, cb, xb, tb, sb2, c2, gb2, cg2, td, t2, nb, cn, ib, rfl, hQ.sub [0, 1, 2, 3, 4, 5, 6, 7, 8, 9, 10, 11, 12, 13, 14] (by decide)⟩

end Go.Proofs.YtkhmjppfogppoaaDoor.Use
