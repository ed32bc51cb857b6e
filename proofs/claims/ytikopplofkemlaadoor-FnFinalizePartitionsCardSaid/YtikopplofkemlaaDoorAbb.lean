/- Short names of values. No condition. -/
import Derived.Test.YtikopplofkemlaaDoorRows
namespace Go.Proofs.YtikopplofkemlaaDoor.Use
abbrev vU (x : Int) : Value := .int .u32 x
abbrev vI (x : Int) : Value := .int .i32 x
abbrev bF : Value := .bool false
abbrev vN : Value := .slice none 0 0
abbrev vP (b : Nat) : Value := .pointer (some ⟨b, 0, none⟩)
end Go.Proofs.YtikopplofkemlaaDoor.Use
