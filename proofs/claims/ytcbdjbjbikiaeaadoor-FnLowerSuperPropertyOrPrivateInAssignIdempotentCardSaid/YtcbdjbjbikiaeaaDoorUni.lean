/- The wrapper of a super property, for all flags. No condition. -/
import Derived.Test.YtcbdjbjbikiaeaaDoorSuperWrap0
import Derived.Test.YtcbdjbjbikiaeaaDoorSuperWrap1
import Derived.Test.YtcbdjbjbikiaeaaDoorOwn
import Derived.Test.YtcbdjbjbikiaeaaDoorOwnK
import Derived.Test.YtcbdjbjbikiaeaaDoorLoop
import Derived.Test.YtcbdjbjbikiaeaaDoorApp
import Derived.Test.YtcbdjbjbikiaeaaDoorDeepCells
import Derived.Test.YtcbdjbjbikiaeaaDoorRows
import Derived.Test.YtcbdjbjbikiaeaaDoorDead
namespace Go.Proofs.YtcbdjbjbikiaeaaDoor.Use
open Go.ChangeShapes Go.WideShapes Go.ChangeAt Go.RowKit Go.Sort Own
set_option linter.unusedVariables false
def supWrapPost (pb : Nat) (PC : Array Value) (mp cr : Nat) (r s : Bool) (loc : Int) (kT kx : Nat) (kl : Int) (w0 : World) (X : Nat → Obj → Prop) (e : Ending) (w' : World) : Prop :=
  ∃ ca : Nat, ∃ dd : Nat, e = .returned (.agg #[.iface 40 (.pointer (some ⟨dd, 0, none⟩)), .int .i32 loc]) ∧ Own w0 w' [row (pb) 206 PC, ((mp, .map #[⟨.string ⟨#[95, 95, 115, 117, 112, 101, 114, 87, 114, 97, 112, 112, 101, 114]⟩, .agg #[.int .i32 0, .int .u32 0, .int .u32 2], 0⟩, ⟨.string ⟨#[95, 95, 115, 117, 112, 101, 114, 71, 101, 116]⟩, .agg #[.int .i32 0, .int .u32 0, .int .u32 3], 1⟩, ⟨.string ⟨#[95, 95, 112, 114, 105, 118, 97, 116, 101, 87, 114, 97, 112, 112, 101, 114]⟩, .agg #[.int .i32 0, .int .u32 0, .int .u32 4], 2⟩] 3) : Rw), row (cr) 68 #[.int .u32 0, .int .u32 1], row (dd) 44 #[.iface 52 (.pointer (some ⟨ca, 0, none⟩)), .int .i32 loc, .string ⟨#[95]⟩, .int .i32 loc, .int .u8 0, .bool false, .bool false, .bool false]] X
theorem supWrap (pb : Nat) (PC : Array Value) (mp cr : Nat) (r s : Bool) (loc : Int) (kT kx : Nat) (kl : Int) (w0 w : World) (X : Nat → Obj → Prop) (hO : Own w0 w [row (pb) 206 PC, ((mp, .map #[⟨.string ⟨#[95, 95, 115, 117, 112, 101, 114, 87, 114, 97, 112, 112, 101, 114]⟩, .agg #[.int .i32 0, .int .u32 0, .int .u32 2], 0⟩, ⟨.string ⟨#[95, 95, 115, 117, 112, 101, 114, 71, 101, 116]⟩, .agg #[.int .i32 0, .int .u32 0, .int .u32 3], 1⟩, ⟨.string ⟨#[95, 95, 112, 114, 105, 118, 97, 116, 101, 87, 114, 97, 112, 112, 101, 114]⟩, .agg #[.int .i32 0, .int .u32 0, .int .u32 4], 2⟩] 3) : Rw), row (cr) 68 #[.int .u32 0, .int .u32 1]] X) (hD : Dead PC mp cr r s) :
    Calls Tryd.prog 36 #[.pointer (some ⟨pb, 0, none⟩), .agg #[.int .i32 loc], .agg #[.iface kT (.pointer (some ⟨kx, 0, none⟩)), .int .i32 kl]] w (supWrapPost pb PC mp cr r s loc kT kx kl w0 X) := by
  cases r <;> cases s
  · refine Calls.mono (supWrapni pb PC mp cr loc kT kx kl w0 w X hO hD) ?_
    rintro e w' ⟨ca, b, sx, i1, th, d1, dd, rfl, hQ⟩
    exact ⟨ca, dd, rfl, hQ.sub [0, 1, 2, 9] (by decide)⟩
  · refine Calls.mono (supWrapns pb PC mp cr loc kT kx kl w0 w X hO hD) ?_
    rintro e w' ⟨ca, b, sx, i1, th, dd, rfl, hQ⟩
    exact ⟨ca, dd, rfl, hQ.sub [0, 1, 2, 8] (by decide)⟩
  · refine Calls.mono (supWrapri pb PC mp cr loc kT kx kl w0 w X hO hD) ?_
    rintro e w' ⟨ca, b, sx, i1, i2, d1, dd, rfl, hQ⟩
    exact ⟨ca, dd, rfl, hQ.sub [0, 1, 2, 9] (by decide)⟩
  · refine Calls.mono (supWraprs pb PC mp cr loc kT kx kl w0 w X hO hD) ?_
    rintro e w' ⟨ca, b, sx, i1, i2, dd, rfl, hQ⟩
    exact ⟨ca, dd, rfl, hQ.sub [0, 1, 2, 8] (by decide)⟩

end Go.Proofs.YtcbdjbjbikiaeaaDoor.Use
