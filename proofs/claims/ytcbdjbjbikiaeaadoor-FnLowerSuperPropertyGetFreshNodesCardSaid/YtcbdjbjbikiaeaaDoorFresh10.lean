/- The law on fresh nodes, walked: one of four cases. No condition. -/
import Derived.Test.YtcbdjbjbikiaeaaDoorOwnK
import Derived.Test.YtcbdjbjbikiaeaaDoorOwn
import Derived.Test.YtcbdjbjbikiaeaaDoorDeepCells
import Derived.Test.YtcbdjbjbikiaeaaDoorRows
import Derived.Test.YtcbdjbjbikiaeaaDoorDead
import Derived.Test.YtcbdjbjbikiaeaaDoorNew
import Derived.Test.YtcbdjbjbikiaeaaDoorStr
import Derived.Test.YtcbdjbjbikiaeaaDoorStrX
import Derived.Test.YtcbdjbjbikiaeaaDoorShapes
import Derived.Test.YtcbdjbjbikiaeaaDoorDoorGet
namespace Go.Proofs.YtcbdjbjbikiaeaaDoor.Use
open Go.ChangeShapes Go.WideShapes Go.ChangeAt Go.RowKit Go.Sort Own
set_option linter.unusedVariables false
def rLri6E (loc : Int) (kl : Int) (nd8 : Nat) (nd15 : Nat) (nd22 : Nat) (nd23 : Nat) (nd24 : Nat) (nd25 : Nat) (nd26 : Nat) (nd27 : Nat) (nd31 : Nat) (nd32 : Nat) (nd33 : Nat) (nd34 : Nat) (nd35 : Nat) (nd36 : Nat) : Nat → Rega.Atoms → Value
  | 0, α => .pointer (some ⟨nd22, 0, none⟩)
  | 1, α => .pointer (some ⟨nd22, 0, none⟩)
  | 2, α => .pointer (some ⟨nd22, 0, none⟩)
  | 3, α => .agg #[.iface 220 (.pointer (some ⟨nd23, 0, none⟩)), .int .i32 loc]
  | 4, α => .pointer (some ⟨nd31, 0, none⟩)
  | 5, α => .pointer (some ⟨nd31, 0, none⟩)
  | 6, α => .pointer (some ⟨nd31, 0, none⟩)
  | 7, α => .agg #[.iface 220 (.pointer (some ⟨nd32, 0, none⟩)), .int .i32 loc]
  | 8, α => .bool true
  | 9, α => .bool false
  | 10, α => .bool false
  | 11, α => .pointer (some ⟨nd22, 0, none⟩)
  | 12, α => .pointer (some ⟨nd22, 0, none⟩)
  | 13, α => .pointer (some ⟨nd22, 2, none⟩)
  | 14, α => .slice (some ⟨nd24, 0, none⟩) 3 3
  | 15, α => .pointer (some ⟨nd24, 0, none⟩)
  | 16, α => .agg #[.iface 40 (.pointer (some ⟨nd27, 0, none⟩)), .int .i32 loc]
  | 17, α => .pointer (some ⟨nd31, 0, none⟩)
  | 18, α => .pointer (some ⟨nd31, 0, none⟩)
  | 19, α => .pointer (some ⟨nd31, 2, none⟩)
  | 20, α => .slice (some ⟨nd33, 0, none⟩) 3 3
  | 21, α => .pointer (some ⟨nd33, 0, none⟩)
  | 22, α => .agg #[.iface 40 (.pointer (some ⟨nd36, 0, none⟩)), .int .i32 loc]
  | 23, α => .bool true
  | 24, α => .bool false
  | 25, α => .bool false
  | 26, α => .bool false
  | 27, α => .pointer (some ⟨nd22, 0, none⟩)
  | 28, α => .pointer (some ⟨nd22, 0, none⟩)
  | 29, α => .pointer (some ⟨nd22, 2, none⟩)
  | 30, α => .slice (some ⟨nd24, 0, none⟩) 3 3
  | 31, α => .pointer (some ⟨nd24, 2, none⟩)
  | 32, α => .agg #[.iface 220 (.pointer (some ⟨nd26, 0, none⟩)), .int .i32 loc]
  | 33, α => .pointer (some ⟨nd31, 0, none⟩)
  | 34, α => .pointer (some ⟨nd31, 0, none⟩)
  | 35, α => .pointer (some ⟨nd31, 2, none⟩)
  | 36, α => .slice (some ⟨nd33, 0, none⟩) 3 3
  | 37, α => .pointer (some ⟨nd33, 2, none⟩)
  | 38, α => .agg #[.iface 220 (.pointer (some ⟨nd35, 0, none⟩)), .int .i32 loc]
  | 39, α => .bool true
  | 40, α => .bool false
  | 41, α => .bool false
  | _, _ => undef
def rLri6Anc : Nat → List Nat
  | 1 => [0]
  | 2 => [0, 1]
  | 3 => [0, 1, 2]
  | 5 => [4]
  | 6 => [4, 5]
  | 7 => [4, 5, 6]
  | 8 => [0, 1, 2, 3, 4, 5, 6, 7]
  | 9 => [0, 1, 2, 3, 4, 5, 6, 7, 8]
  | 10 => [0, 1, 2, 3, 4, 5, 6, 7, 8, 9]
  | 11 => [0, 1, 2, 3, 4, 5, 6, 7, 8, 9, 10]
  | 12 => [0, 1, 2, 3, 4, 5, 6, 7, 8, 9, 10, 11]
  | 13 => [0, 1, 2, 3, 4, 5, 6, 7, 8, 9, 10, 11, 12]
  | 14 => [0, 1, 2, 3, 4, 5, 6, 7, 8, 9, 10, 11, 12, 13]
  | 15 => [0, 1, 2, 3, 4, 5, 6, 7, 8, 9, 10, 11, 12, 13, 14]
  | 16 => [0, 1, 2, 3, 4, 5, 6, 7, 8, 9, 10, 11, 12, 13, 14, 15]
  | 17 => [0, 1, 2, 3, 4, 5, 6, 7, 8, 9, 10]
  | 18 => [0, 1, 2, 3, 4, 5, 6, 7, 8, 9, 10, 17]
  | 19 => [0, 1, 2, 3, 4, 5, 6, 7, 8, 9, 10, 17, 18]
  | 20 => [0, 1, 2, 3, 4, 5, 6, 7, 8, 9, 10, 17, 18, 19]
  | 21 => [0, 1, 2, 3, 4, 5, 6, 7, 8, 9, 10, 17, 18, 19, 20]
  | 22 => [0, 1, 2, 3, 4, 5, 6, 7, 8, 9, 10, 17, 18, 19, 20, 21]
  | 23 => [0, 1, 2, 3, 4, 5, 6, 7, 8, 9, 10, 11, 12, 13, 14, 15, 16, 17, 18, 19, 20, 21, 22]
  | 24 => [0, 1, 2, 3, 4, 5, 6, 7, 8, 9, 10, 11, 12, 13, 14, 15, 16, 17, 18, 19, 20, 21, 22, 23]
  | 25 => [0, 1, 2, 3, 4, 5, 6, 7, 8, 9, 10, 11, 12, 13, 14, 15, 16, 17, 18, 19, 20, 21, 22, 23, 24]
  | 26 => [0, 1, 2, 3, 4, 5, 6, 7, 8, 9, 10, 11, 12, 13, 14, 15, 16, 17, 18, 19, 20, 21, 22, 23, 24, 25]
  | 27 => [0, 1, 2, 3, 4, 5, 6, 7, 8, 9, 10, 11, 12, 13, 14, 15, 16, 17, 18, 19, 20, 21, 22, 23, 24, 25, 26]
  | 28 => [0, 1, 2, 3, 4, 5, 6, 7, 8, 9, 10, 11, 12, 13, 14, 15, 16, 17, 18, 19, 20, 21, 22, 23, 24, 25, 26, 27]
  | 29 => [0, 1, 2, 3, 4, 5, 6, 7, 8, 9, 10, 11, 12, 13, 14, 15, 16, 17, 18, 19, 20, 21, 22, 23, 24, 25, 26, 27, 28]
  | 30 => [0, 1, 2, 3, 4, 5, 6, 7, 8, 9, 10, 11, 12, 13, 14, 15, 16, 17, 18, 19, 20, 21, 22, 23, 24, 25, 26, 27, 28, 29]
  | 31 => [0, 1, 2, 3, 4, 5, 6, 7, 8, 9, 10, 11, 12, 13, 14, 15, 16, 17, 18, 19, 20, 21, 22, 23, 24, 25, 26, 27, 28, 29, 30]
  | 32 => [0, 1, 2, 3, 4, 5, 6, 7, 8, 9, 10, 11, 12, 13, 14, 15, 16, 17, 18, 19, 20, 21, 22, 23, 24, 25, 26, 27, 28, 29, 30, 31]
  | 33 => [0, 1, 2, 3, 4, 5, 6, 7, 8, 9, 10, 11, 12, 13, 14, 15, 16, 17, 18, 19, 20, 21, 22, 23, 24, 25, 26]
  | 34 => [0, 1, 2, 3, 4, 5, 6, 7, 8, 9, 10, 11, 12, 13, 14, 15, 16, 17, 18, 19, 20, 21, 22, 23, 24, 25, 26, 33]
  | 35 => [0, 1, 2, 3, 4, 5, 6, 7, 8, 9, 10, 11, 12, 13, 14, 15, 16, 17, 18, 19, 20, 21, 22, 23, 24, 25, 26, 33, 34]
  | 36 => [0, 1, 2, 3, 4, 5, 6, 7, 8, 9, 10, 11, 12, 13, 14, 15, 16, 17, 18, 19, 20, 21, 22, 23, 24, 25, 26, 33, 34, 35]
  | 37 => [0, 1, 2, 3, 4, 5, 6, 7, 8, 9, 10, 11, 12, 13, 14, 15, 16, 17, 18, 19, 20, 21, 22, 23, 24, 25, 26, 33, 34, 35, 36]
  | 38 => [0, 1, 2, 3, 4, 5, 6, 7, 8, 9, 10, 11, 12, 13, 14, 15, 16, 17, 18, 19, 20, 21, 22, 23, 24, 25, 26, 33, 34, 35, 36, 37]
  | 39 => [0, 1, 2, 3, 4, 5, 6, 7, 8, 9, 10, 11, 12, 13, 14, 15, 16, 17, 18, 19, 20, 21, 22, 23, 24, 25, 26, 27, 28, 29, 30, 31, 32, 33, 34, 35, 36, 37, 38]
  | 40 => [0, 1, 2, 3, 4, 5, 6, 7, 8, 9, 10, 11, 12, 13, 14, 15, 16, 17, 18, 19, 20, 21, 22, 23, 24, 25, 26, 27, 28, 29, 30, 31, 32, 33, 34, 35, 36, 37, 38, 39]
  | 41 => [0, 1, 2, 3, 4, 5, 6, 7, 8, 9, 10, 11, 12, 13, 14, 15, 16, 17, 18, 19, 20, 21, 22, 23, 24, 25, 26, 27, 28, 29, 30, 31, 32, 33, 34, 35, 36, 37, 38, 39, 40]
  | _ => []
def rLri6Trn : Nat → List Nat
  | _ => []
def rLri6Cnt : List (Nat × Nat) := []
def rLri6R (loc : Int) (kl : Int) (nd8 : Nat) (nd15 : Nat) (nd22 : Nat) (nd23 : Nat) (nd24 : Nat) (nd25 : Nat) (nd26 : Nat) (nd27 : Nat) (nd31 : Nat) (nd32 : Nat) (nd33 : Nat) (nd34 : Nat) (nd35 : Nat) (nd36 : Nat) (L9 : Nat → Bool) (α : Rega.Atoms) (ix9 : Nat) : Rw := if ix9 = 999 then row (nd32) 223 #[.int .u32 0, .int .u32 3, .bool false, .bool false, .bool false] else if ix9 = 1999 then row (nd31) 56 #[.iface 220 (.pointer (some ⟨nd32, 0, none⟩)), .int .i32 loc, .slice (some ⟨nd33, 0, none⟩) 3 3, .int .i32 0, .int .u8 0, .int .u8 0, .bool false, .bool false] else if ix9 = 2999 then row (nd33) 30 #[.iface 40 (.pointer (some ⟨nd36, 0, none⟩)), .int .i32 loc, .iface 220 (.pointer (some ⟨nd35, 0, none⟩)), .int .i32 loc, .iface 50 (.pointer (some ⟨nd15, 0, none⟩)), .int .i32 kl] else if ix9 = 3999 then row (nd34) 223 #[.int .u32 0, .int .u32 1, .bool false, .bool false, .bool false] else if ix9 = 4999 then row (nd35) 223 #[.int .u32 0, .int .u32 1, .bool false, .bool false, .bool false] else if ix9 = 5999 then row (nd36) 44 #[.iface 220 (.pointer (some ⟨nd34, 0, none⟩)), .int .i32 loc, .string ⟨#[112, 114, 111, 116, 111, 116, 121, 112, 101]⟩, .int .i32 loc, .int .u8 0, .bool false, .bool false, .bool false] else if ix9 = 6999 then row (nd23) 223 #[.int .u32 0, .int .u32 3, .bool false, .bool false, .bool false] else if ix9 = 7999 then row (nd22) 56 #[.iface 220 (.pointer (some ⟨nd23, 0, none⟩)), .int .i32 loc, .slice (some ⟨nd24, 0, none⟩) 3 3, .int .i32 0, .int .u8 0, .int .u8 0, .bool false, .bool false] else if ix9 = 8999 then row (nd24) 30 #[.iface 40 (.pointer (some ⟨nd27, 0, none⟩)), .int .i32 loc, .iface 220 (.pointer (some ⟨nd26, 0, none⟩)), .int .i32 loc, .iface 50 (.pointer (some ⟨nd8, 0, none⟩)), .int .i32 kl] else if ix9 = 9999 then row (nd25) 223 #[.int .u32 0, .int .u32 1, .bool false, .bool false, .bool false] else if ix9 = 10999 then row (nd26) 223 #[.int .u32 0, .int .u32 1, .bool false, .bool false, .bool false] else if ix9 = 11999 then row (nd27) 44 #[.iface 220 (.pointer (some ⟨nd25, 0, none⟩)), .int .i32 loc, .string ⟨#[112, 114, 111, 116, 111, 116, 121, 112, 101]⟩, .int .i32 loc, .int .u8 0, .bool false, .bool false, .bool false] else (0, .map #[] 0)
theorem rLri6_he (loc : Int) (kl : Int) (nd8 : Nat) (nd15 : Nat) (nd22 : Nat) (nd23 : Nat) (nd24 : Nat) (nd25 : Nat) (nd26 : Nat) (nd27 : Nat) (nd31 : Nat) (nd32 : Nat) (nd33 : Nat) (nd34 : Nat) (nd35 : Nat) (nd36 : Nat) : ∀ kk α α', (∀ j, (j % 1000 = kk ∨ j % 1000 ∈ rLri6Anc kk) → α j = α' j) → rLri6E loc kl nd8 nd15 nd22 nd23 nd24 nd25 nd26 nd27 nd31 nd32 nd33 nd34 nd35 nd36 kk α = rLri6E loc kl nd8 nd15 nd22 nd23 nd24 nd25 nd26 nd27 nd31 nd32 nd33 nd34 nd35 nd36 kk α' := by
  intro kk α α' h
  match kk with
  | 0 => rfl
  | 1 => rfl
  | 2 => rfl
  | 3 => rfl
  | 4 => rfl
  | 5 => rfl
  | 6 => rfl
  | 7 => rfl
  | 8 => rfl
  | 9 => rfl
  | 10 => rfl
  | 11 => rfl
  | 12 => rfl
  | 13 => rfl
  | 14 => rfl
  | 15 => rfl
  | 16 => rfl
  | 17 => rfl
  | 18 => rfl
  | 19 => rfl
  | 20 => rfl
  | 21 => rfl
  | 22 => rfl
  | 23 => rfl
  | 24 => rfl
  | 25 => rfl
  | 26 => rfl
  | 27 => rfl
  | 28 => rfl
  | 29 => rfl
  | 30 => rfl
  | 31 => rfl
  | 32 => rfl
  | 33 => rfl
  | 34 => rfl
  | 35 => rfl
  | 36 => rfl
  | 37 => rfl
  | 38 => rfl
  | 39 => rfl
  | 40 => rfl
  | 41 => rfl
  | n + 42 => rfl
theorem rLri6_st (loc : Int) (kl : Int) (nd8 : Nat) (nd15 : Nat) (nd22 : Nat) (nd23 : Nat) (nd24 : Nat) (nd25 : Nat) (nd26 : Nat) (nd27 : Nat) (nd31 : Nat) (nd32 : Nat) (nd33 : Nat) (nd34 : Nat) (nd35 : Nat) (nd36 : Nat) : Stable rLri6Cnt 12 rLri6Anc rLri6Trn (rLri6R loc kl nd8 nd15 nd22 nd23 nd24 nd25 nd26 nd27 nd31 nd32 nd33 nd34 nd35 nd36) := by
  intro k9 L9 α α' ix9 hk hcl hα hact ht
  have hp := act_places hact
  replace hp : ix9 ∈ [999, 1999, 2999, 3999, 4999, 5999, 6999, 7999, 8999, 9999, 10999, 11999] := hp
  simp only [List.mem_cons, List.not_mem_nil, or_false] at hp
  rcases hp with rfl | rfl | rfl | rfl | rfl | rfl | rfl | rfl | rfl | rfl | rfl | rfl
  · rfl
  · rfl
  · rfl
  · rfl
  · rfl
  · rfl
  · rfl
  · rfl
  · rfl
  · rfl
  · rfl
  · rfl
def rLri7E (loc : Int) (kl : Int) (nd8 : Nat) (nd15 : Nat) (nd22 : Nat) (nd23 : Nat) (nd24 : Nat) (nd25 : Nat) (nd26 : Nat) (nd27 : Nat) (nd31 : Nat) (nd32 : Nat) (nd33 : Nat) (nd34 : Nat) (nd35 : Nat) (nd36 : Nat) : Nat → Rega.Atoms → Value
  | 0, α => .pointer (some ⟨nd22, 0, none⟩)
  | 1, α => .pointer (some ⟨nd22, 0, none⟩)
  | 2, α => .pointer (some ⟨nd22, 0, none⟩)
  | 3, α => .agg #[.iface 220 (.pointer (some ⟨nd23, 0, none⟩)), .int .i32 loc]
  | 4, α => .pointer (some ⟨nd31, 0, none⟩)
  | 5, α => .pointer (some ⟨nd31, 0, none⟩)
  | 6, α => .pointer (some ⟨nd31, 0, none⟩)
  | 7, α => .agg #[.iface 220 (.pointer (some ⟨nd32, 0, none⟩)), .int .i32 loc]
  | 8, α => .bool false
  | 9, α => .bool false
  | 10, α => .pointer (some ⟨nd22, 0, none⟩)
  | 11, α => .pointer (some ⟨nd22, 0, none⟩)
  | 12, α => .pointer (some ⟨nd22, 2, none⟩)
  | 13, α => .slice (some ⟨nd24, 0, none⟩) 3 3
  | 14, α => .pointer (some ⟨nd24, 0, none⟩)
  | 15, α => .agg #[.iface 40 (.pointer (some ⟨nd27, 0, none⟩)), .int .i32 loc]
  | 16, α => .pointer (some ⟨nd31, 0, none⟩)
  | 17, α => .pointer (some ⟨nd31, 0, none⟩)
  | 18, α => .pointer (some ⟨nd31, 2, none⟩)
  | 19, α => .slice (some ⟨nd33, 0, none⟩) 3 3
  | 20, α => .pointer (some ⟨nd33, 0, none⟩)
  | 21, α => .agg #[.iface 40 (.pointer (some ⟨nd36, 0, none⟩)), .int .i32 loc]
  | 22, α => .bool false
  | 23, α => .bool false
  | _, _ => undef
def rLri7Anc : Nat → List Nat
  | 1 => [0]
  | 2 => [0, 1]
  | 3 => [0, 1, 2]
  | 5 => [4]
  | 6 => [4, 5]
  | 7 => [4, 5, 6]
  | 8 => [0, 1, 2, 3, 4, 5, 6, 7]
  | 9 => [0, 1, 2, 3, 4, 5, 6, 7, 8]
  | 10 => [0, 1, 2, 3, 4, 5, 6, 7, 8, 9]
  | 11 => [0, 1, 2, 3, 4, 5, 6, 7, 8, 9, 10]
  | 12 => [0, 1, 2, 3, 4, 5, 6, 7, 8, 9, 10, 11]
  | 13 => [0, 1, 2, 3, 4, 5, 6, 7, 8, 9, 10, 11, 12]
  | 14 => [0, 1, 2, 3, 4, 5, 6, 7, 8, 9, 10, 11, 12, 13]
  | 15 => [0, 1, 2, 3, 4, 5, 6, 7, 8, 9, 10, 11, 12, 13, 14]
  | 16 => [0, 1, 2, 3, 4, 5, 6, 7, 8, 9]
  | 17 => [0, 1, 2, 3, 4, 5, 6, 7, 8, 9, 16]
  | 18 => [0, 1, 2, 3, 4, 5, 6, 7, 8, 9, 16, 17]
  | 19 => [0, 1, 2, 3, 4, 5, 6, 7, 8, 9, 16, 17, 18]
  | 20 => [0, 1, 2, 3, 4, 5, 6, 7, 8, 9, 16, 17, 18, 19]
  | 21 => [0, 1, 2, 3, 4, 5, 6, 7, 8, 9, 16, 17, 18, 19, 20]
  | 22 => [0, 1, 2, 3, 4, 5, 6, 7, 8, 9, 10, 11, 12, 13, 14, 15, 16, 17, 18, 19, 20, 21]
  | 23 => [0, 1, 2, 3, 4, 5, 6, 7, 8, 9, 10, 11, 12, 13, 14, 15, 16, 17, 18, 19, 20, 21, 22]
  | _ => []
def rLri7Trn : Nat → List Nat
  | _ => []
def rLri7Cnt : List (Nat × Nat) := []
def rLri7R (loc : Int) (kl : Int) (nd8 : Nat) (nd15 : Nat) (nd22 : Nat) (nd23 : Nat) (nd24 : Nat) (nd25 : Nat) (nd26 : Nat) (nd27 : Nat) (nd31 : Nat) (nd32 : Nat) (nd33 : Nat) (nd34 : Nat) (nd35 : Nat) (nd36 : Nat) (L9 : Nat → Bool) (α : Rega.Atoms) (ix9 : Nat) : Rw := if ix9 = 999 then row (nd32) 223 #[.int .u32 0, .int .u32 3, .bool false, .bool false, .bool false] else if ix9 = 1999 then row (nd31) 56 #[.iface 220 (.pointer (some ⟨nd32, 0, none⟩)), .int .i32 loc, .slice (some ⟨nd33, 0, none⟩) 3 3, .int .i32 0, .int .u8 0, .int .u8 0, .bool false, .bool false] else if ix9 = 2999 then row (nd33) 30 #[.iface 40 (.pointer (some ⟨nd36, 0, none⟩)), .int .i32 loc, .iface 220 (.pointer (some ⟨nd35, 0, none⟩)), .int .i32 loc, .iface 50 (.pointer (some ⟨nd15, 0, none⟩)), .int .i32 kl] else if ix9 = 3999 then row (nd34) 223 #[.int .u32 0, .int .u32 1, .bool false, .bool false, .bool false] else if ix9 = 4999 then row (nd36) 44 #[.iface 220 (.pointer (some ⟨nd34, 0, none⟩)), .int .i32 loc, .string ⟨#[112, 114, 111, 116, 111, 116, 121, 112, 101]⟩, .int .i32 loc, .int .u8 0, .bool false, .bool false, .bool false] else if ix9 = 5999 then row (nd23) 223 #[.int .u32 0, .int .u32 3, .bool false, .bool false, .bool false] else if ix9 = 6999 then row (nd22) 56 #[.iface 220 (.pointer (some ⟨nd23, 0, none⟩)), .int .i32 loc, .slice (some ⟨nd24, 0, none⟩) 3 3, .int .i32 0, .int .u8 0, .int .u8 0, .bool false, .bool false] else if ix9 = 7999 then row (nd24) 30 #[.iface 40 (.pointer (some ⟨nd27, 0, none⟩)), .int .i32 loc, .iface 220 (.pointer (some ⟨nd26, 0, none⟩)), .int .i32 loc, .iface 50 (.pointer (some ⟨nd8, 0, none⟩)), .int .i32 kl] else if ix9 = 8999 then row (nd25) 223 #[.int .u32 0, .int .u32 1, .bool false, .bool false, .bool false] else if ix9 = 9999 then row (nd27) 44 #[.iface 220 (.pointer (some ⟨nd25, 0, none⟩)), .int .i32 loc, .string ⟨#[112, 114, 111, 116, 111, 116, 121, 112, 101]⟩, .int .i32 loc, .int .u8 0, .bool false, .bool false, .bool false] else (0, .map #[] 0)
theorem rLri7_he (loc : Int) (kl : Int) (nd8 : Nat) (nd15 : Nat) (nd22 : Nat) (nd23 : Nat) (nd24 : Nat) (nd25 : Nat) (nd26 : Nat) (nd27 : Nat) (nd31 : Nat) (nd32 : Nat) (nd33 : Nat) (nd34 : Nat) (nd35 : Nat) (nd36 : Nat) : ∀ kk α α', (∀ j, (j % 1000 = kk ∨ j % 1000 ∈ rLri7Anc kk) → α j = α' j) → rLri7E loc kl nd8 nd15 nd22 nd23 nd24 nd25 nd26 nd27 nd31 nd32 nd33 nd34 nd35 nd36 kk α = rLri7E loc kl nd8 nd15 nd22 nd23 nd24 nd25 nd26 nd27 nd31 nd32 nd33 nd34 nd35 nd36 kk α' := by
  intro kk α α' h
  match kk with
  | 0 => rfl
  | 1 => rfl
  | 2 => rfl
  | 3 => rfl
  | 4 => rfl
  | 5 => rfl
  | 6 => rfl
  | 7 => rfl
  | 8 => rfl
  | 9 => rfl
  | 10 => rfl
  | 11 => rfl
  | 12 => rfl
  | 13 => rfl
  | 14 => rfl
  | 15 => rfl
  | 16 => rfl
  | 17 => rfl
  | 18 => rfl
  | 19 => rfl
  | 20 => rfl
  | 21 => rfl
  | 22 => rfl
  | 23 => rfl
  | n + 24 => rfl
theorem rLri7_st (loc : Int) (kl : Int) (nd8 : Nat) (nd15 : Nat) (nd22 : Nat) (nd23 : Nat) (nd24 : Nat) (nd25 : Nat) (nd26 : Nat) (nd27 : Nat) (nd31 : Nat) (nd32 : Nat) (nd33 : Nat) (nd34 : Nat) (nd35 : Nat) (nd36 : Nat) : Stable rLri7Cnt 10 rLri7Anc rLri7Trn (rLri7R loc kl nd8 nd15 nd22 nd23 nd24 nd25 nd26 nd27 nd31 nd32 nd33 nd34 nd35 nd36) := by
  intro k9 L9 α α' ix9 hk hcl hα hact ht
  have hp := act_places hact
  replace hp : ix9 ∈ [999, 1999, 2999, 3999, 4999, 5999, 6999, 7999, 8999, 9999] := hp
  simp only [List.mem_cons, List.not_mem_nil, or_false] at hp
  rcases hp with rfl | rfl | rfl | rfl | rfl | rfl | rfl | rfl | rfl | rfl
  · rfl
  · rfl
  · rfl
  · rfl
  · rfl
  · rfl
  · rfl
  · rfl
  · rfl
  · rfl
def rLri8E (loc : Int) (kl : Int) (nd8 : Nat) (nd15 : Nat) (nd22 : Nat) (nd23 : Nat) (nd24 : Nat) (nd26 : Nat) (nd27 : Nat) (nd31 : Nat) (nd32 : Nat) (nd33 : Nat) (nd35 : Nat) (nd36 : Nat) : Nat → Rega.Atoms → Value
  | 0, α => .bool true
  | 1, α => .bool true
  | 2, α => .pointer (some ⟨nd22, 0, none⟩)
  | 3, α => .pointer (some ⟨nd22, 0, none⟩)
  | 4, α => .pointer (some ⟨nd22, 2, none⟩)
  | 5, α => .slice (some ⟨nd24, 0, none⟩) 3 3
  | 6, α => .pointer (some ⟨nd24, 2, none⟩)
  | 7, α => .agg #[.iface 220 (.pointer (some ⟨nd26, 0, none⟩)), .int .i32 loc]
  | 8, α => .pointer (some ⟨nd31, 0, none⟩)
  | 9, α => .pointer (some ⟨nd31, 0, none⟩)
  | 10, α => .pointer (some ⟨nd31, 2, none⟩)
  | 11, α => .slice (some ⟨nd33, 0, none⟩) 3 3
  | 12, α => .pointer (some ⟨nd33, 2, none⟩)
  | 13, α => .agg #[.iface 220 (.pointer (some ⟨nd35, 0, none⟩)), .int .i32 loc]
  | 14, α => .bool false
  | 15, α => .bool false
  | _, _ => undef
def rLri8Anc : Nat → List Nat
  | 1 => [0]
  | 2 => [0, 1]
  | 3 => [0, 1, 2]
  | 4 => [0, 1, 2, 3]
  | 5 => [0, 1, 2, 3, 4]
  | 6 => [0, 1, 2, 3, 4, 5]
  | 7 => [0, 1, 2, 3, 4, 5, 6]
  | 8 => [0, 1]
  | 9 => [0, 1, 8]
  | 10 => [0, 1, 8, 9]
  | 11 => [0, 1, 8, 9, 10]
  | 12 => [0, 1, 8, 9, 10, 11]
  | 13 => [0, 1, 8, 9, 10, 11, 12]
  | 14 => [0, 1, 2, 3, 4, 5, 6, 7, 8, 9, 10, 11, 12, 13]
  | 15 => [0, 1, 2, 3, 4, 5, 6, 7, 8, 9, 10, 11, 12, 13, 14]
  | _ => []
def rLri8Trn : Nat → List Nat
  | _ => []
def rLri8Cnt : List (Nat × Nat) := []
def rLri8R (loc : Int) (kl : Int) (nd8 : Nat) (nd15 : Nat) (nd22 : Nat) (nd23 : Nat) (nd24 : Nat) (nd26 : Nat) (nd27 : Nat) (nd31 : Nat) (nd32 : Nat) (nd33 : Nat) (nd35 : Nat) (nd36 : Nat) (L9 : Nat → Bool) (α : Rega.Atoms) (ix9 : Nat) : Rw := if ix9 = 999 then row (nd31) 56 #[.iface 220 (.pointer (some ⟨nd32, 0, none⟩)), .int .i32 loc, .slice (some ⟨nd33, 0, none⟩) 3 3, .int .i32 0, .int .u8 0, .int .u8 0, .bool false, .bool false] else if ix9 = 1999 then row (nd33) 30 #[.iface 40 (.pointer (some ⟨nd36, 0, none⟩)), .int .i32 loc, .iface 220 (.pointer (some ⟨nd35, 0, none⟩)), .int .i32 loc, .iface 50 (.pointer (some ⟨nd15, 0, none⟩)), .int .i32 kl] else if ix9 = 2999 then row (nd22) 56 #[.iface 220 (.pointer (some ⟨nd23, 0, none⟩)), .int .i32 loc, .slice (some ⟨nd24, 0, none⟩) 3 3, .int .i32 0, .int .u8 0, .int .u8 0, .bool false, .bool false] else if ix9 = 3999 then row (nd24) 30 #[.iface 40 (.pointer (some ⟨nd27, 0, none⟩)), .int .i32 loc, .iface 220 (.pointer (some ⟨nd26, 0, none⟩)), .int .i32 loc, .iface 50 (.pointer (some ⟨nd8, 0, none⟩)), .int .i32 kl] else if ix9 = 4999 then row (nd35) 223 #[.int .u32 0, .int .u32 1, .bool false, .bool false, .bool false] else if ix9 = 5999 then row (nd26) 223 #[.int .u32 0, .int .u32 1, .bool false, .bool false, .bool false] else (0, .map #[] 0)
theorem rLri8_he (loc : Int) (kl : Int) (nd8 : Nat) (nd15 : Nat) (nd22 : Nat) (nd23 : Nat) (nd24 : Nat) (nd26 : Nat) (nd27 : Nat) (nd31 : Nat) (nd32 : Nat) (nd33 : Nat) (nd35 : Nat) (nd36 : Nat) : ∀ kk α α', (∀ j, (j % 1000 = kk ∨ j % 1000 ∈ rLri8Anc kk) → α j = α' j) → rLri8E loc kl nd8 nd15 nd22 nd23 nd24 nd26 nd27 nd31 nd32 nd33 nd35 nd36 kk α = rLri8E loc kl nd8 nd15 nd22 nd23 nd24 nd26 nd27 nd31 nd32 nd33 nd35 nd36 kk α' := by
  intro kk α α' h
  match kk with
  | 0 => rfl
  | 1 => rfl
  | 2 => rfl
  | 3 => rfl
  | 4 => rfl
  | 5 => rfl
  | 6 => rfl
  | 7 => rfl
  | 8 => rfl
  | 9 => rfl
  | 10 => rfl
  | 11 => rfl
  | 12 => rfl
  | 13 => rfl
  | 14 => rfl
  | 15 => rfl
  | n + 16 => rfl
theorem rLri8_st (loc : Int) (kl : Int) (nd8 : Nat) (nd15 : Nat) (nd22 : Nat) (nd23 : Nat) (nd24 : Nat) (nd26 : Nat) (nd27 : Nat) (nd31 : Nat) (nd32 : Nat) (nd33 : Nat) (nd35 : Nat) (nd36 : Nat) : Stable rLri8Cnt 6 rLri8Anc rLri8Trn (rLri8R loc kl nd8 nd15 nd22 nd23 nd24 nd26 nd27 nd31 nd32 nd33 nd35 nd36) := by
  intro k9 L9 α α' ix9 hk hcl hα hact ht
  have hp := act_places hact
  replace hp : ix9 ∈ [999, 1999, 2999, 3999, 4999, 5999] := hp
  simp only [List.mem_cons, List.not_mem_nil, or_false] at hp
  rcases hp with rfl | rfl | rfl | rfl | rfl | rfl
  · rfl
  · rfl
  · rfl
  · rfl
  · rfl
  · rfl
def rLri9E (loc : Int) (kl : Int) (nd8 : Nat) (B12 : Nat) (nd15 : Nat) (B19 : Nat) (nd22 : Nat) (nd23 : Nat) (nd24 : Nat) (nd26 : Nat) (nd27 : Nat) (nd31 : Nat) (nd32 : Nat) (nd33 : Nat) (nd35 : Nat) (nd36 : Nat) : Nat → Rega.Atoms → Value
  | 0, α => .pointer (some ⟨nd22, 0, none⟩)
  | 1, α => .pointer (some ⟨nd22, 0, none⟩)
  | 2, α => .pointer (some ⟨nd22, 2, none⟩)
  | 3, α => .slice (some ⟨nd24, 0, none⟩) 3 3
  | 4, α => .pointer (some ⟨nd24, 4, none⟩)
  | 5, α => .agg #[.iface 50 (.pointer (some ⟨nd8, 0, none⟩)), .int .i32 kl]
  | 6, α => .pointer (some ⟨nd8, 0, none⟩)
  | 7, α => .agg #[.iface 50 (.pointer (some ⟨nd8, 0, none⟩)), .int .i32 kl]
  | 8, α => .pointer (some ⟨nd8, 0, none⟩)
  | 9, α => .bool true
  | 10, α => .bool true
  | 11, α => .pointer (some ⟨nd31, 0, none⟩)
  | 12, α => .pointer (some ⟨nd31, 0, none⟩)
  | 13, α => .pointer (some ⟨nd31, 2, none⟩)
  | 14, α => .slice (some ⟨nd33, 0, none⟩) 3 3
  | 15, α => .pointer (some ⟨nd33, 4, none⟩)
  | 16, α => .agg #[.iface 50 (.pointer (some ⟨nd15, 0, none⟩)), .int .i32 kl]
  | 17, α => .pointer (some ⟨nd15, 0, none⟩)
  | 18, α => .agg #[.iface 50 (.pointer (some ⟨nd15, 0, none⟩)), .int .i32 kl]
  | 19, α => .pointer (some ⟨nd15, 0, none⟩)
  | 20, α => .bool true
  | 21, α => .bool true
  | 22, α => .bool true
  | _, _ => undef
def rLri9Anc : Nat → List Nat
  | 1 => [0]
  | 2 => [0, 1]
  | 3 => [0, 1, 2]
  | 4 => [0, 1, 2, 3]
  | 5 => [0, 1, 2, 3, 4]
  | 6 => [0, 1, 2, 3, 4, 5]
  | 8 => [0, 1, 2, 3, 4, 5, 6, 7]
  | 9 => [0, 1, 2, 3, 4, 5, 6, 7, 8]
  | 10 => [0, 1, 2, 3, 4, 5, 6, 7, 8, 9]
  | 11 => [0, 1, 2, 3, 4, 5, 6, 7, 8, 9, 10]
  | 12 => [0, 1, 2, 3, 4, 5, 6, 7, 8, 9, 10, 11]
  | 13 => [0, 1, 2, 3, 4, 5, 6, 7, 8, 9, 10, 11, 12]
  | 14 => [0, 1, 2, 3, 4, 5, 6, 7, 8, 9, 10, 11, 12, 13]
  | 15 => [0, 1, 2, 3, 4, 5, 6, 7, 8, 9, 10, 11, 12, 13, 14]
  | 16 => [0, 1, 2, 3, 4, 5, 6, 7, 8, 9, 10, 11, 12, 13, 14, 15]
  | 17 => [0, 1, 2, 3, 4, 5, 6, 7, 8, 9, 10, 11, 12, 13, 14, 15, 16]
  | 18 => [0, 1, 2, 3, 4, 5, 6, 7, 8, 9, 10]
  | 19 => [0, 1, 2, 3, 4, 5, 6, 7, 8, 9, 10, 11, 12, 13, 14, 15, 16, 17, 18]
  | 20 => [0, 1, 2, 3, 4, 5, 6, 7, 8, 9, 10, 11, 12, 13, 14, 15, 16, 17, 18, 19]
  | 21 => [0, 1, 2, 3, 4, 5, 6, 7, 8, 9, 10, 11, 12, 13, 14, 15, 16, 17, 18, 19, 20]
  | 22 => [0, 1, 2, 3, 4, 5, 6, 7, 8, 9, 10, 11, 12, 13, 14, 15, 16, 17, 18, 19, 20, 21]
  | _ => []
def rLri9Trn : Nat → List Nat
  | _ => []
def rLri9Cnt : List (Nat × Nat) := []
def rLri9R (loc : Int) (kl : Int) (nd8 : Nat) (B12 : Nat) (nd15 : Nat) (B19 : Nat) (nd22 : Nat) (nd23 : Nat) (nd24 : Nat) (nd26 : Nat) (nd27 : Nat) (nd31 : Nat) (nd32 : Nat) (nd33 : Nat) (nd35 : Nat) (nd36 : Nat) (L9 : Nat → Bool) (α : Rega.Atoms) (ix9 : Nat) : Rw := if ix9 = 999 then row (nd31) 56 #[.iface 220 (.pointer (some ⟨nd32, 0, none⟩)), .int .i32 loc, .slice (some ⟨nd33, 0, none⟩) 3 3, .int .i32 0, .int .u8 0, .int .u8 0, .bool false, .bool false] else if ix9 = 1999 then row (nd33) 30 #[.iface 40 (.pointer (some ⟨nd36, 0, none⟩)), .int .i32 loc, .iface 220 (.pointer (some ⟨nd35, 0, none⟩)), .int .i32 loc, .iface 50 (.pointer (some ⟨nd15, 0, none⟩)), .int .i32 kl] else if ix9 = 2999 then row (nd22) 56 #[.iface 220 (.pointer (some ⟨nd23, 0, none⟩)), .int .i32 loc, .slice (some ⟨nd24, 0, none⟩) 3 3, .int .i32 0, .int .u8 0, .int .u8 0, .bool false, .bool false] else if ix9 = 3999 then row (nd24) 30 #[.iface 40 (.pointer (some ⟨nd27, 0, none⟩)), .int .i32 loc, .iface 220 (.pointer (some ⟨nd26, 0, none⟩)), .int .i32 loc, .iface 50 (.pointer (some ⟨nd8, 0, none⟩)), .int .i32 kl] else if ix9 = 4999 then row (B19) 30 #[.iface 50 (.pointer (some ⟨nd15, 0, none⟩)), .int .i32 kl] else if ix9 = 5999 then row (B12) 30 #[.iface 50 (.pointer (some ⟨nd8, 0, none⟩)), .int .i32 kl] else (0, .map #[] 0)
theorem rLri9_he (loc : Int) (kl : Int) (nd8 : Nat) (B12 : Nat) (nd15 : Nat) (B19 : Nat) (nd22 : Nat) (nd23 : Nat) (nd24 : Nat) (nd26 : Nat) (nd27 : Nat) (nd31 : Nat) (nd32 : Nat) (nd33 : Nat) (nd35 : Nat) (nd36 : Nat) : ∀ kk α α', (∀ j, (j % 1000 = kk ∨ j % 1000 ∈ rLri9Anc kk) → α j = α' j) → rLri9E loc kl nd8 B12 nd15 B19 nd22 nd23 nd24 nd26 nd27 nd31 nd32 nd33 nd35 nd36 kk α = rLri9E loc kl nd8 B12 nd15 B19 nd22 nd23 nd24 nd26 nd27 nd31 nd32 nd33 nd35 nd36 kk α' := by
  intro kk α α' h
  match kk with
  | 0 => rfl
  | 1 => rfl
  | 2 => rfl
  | 3 => rfl
  | 4 => rfl
  | 5 => rfl
  | 6 => rfl
  | 7 => rfl
  | 8 => rfl
  | 9 => rfl
  | 10 => rfl
  | 11 => rfl
  | 12 => rfl
  | 13 => rfl
  | 14 => rfl
  | 15 => rfl
  | 16 => rfl
  | 17 => rfl
  | 18 => rfl
  | 19 => rfl
  | 20 => rfl
  | 21 => rfl
  | 22 => rfl
  | n + 23 => rfl
theorem rLri9_st (loc : Int) (kl : Int) (nd8 : Nat) (B12 : Nat) (nd15 : Nat) (B19 : Nat) (nd22 : Nat) (nd23 : Nat) (nd24 : Nat) (nd26 : Nat) (nd27 : Nat) (nd31 : Nat) (nd32 : Nat) (nd33 : Nat) (nd35 : Nat) (nd36 : Nat) : Stable rLri9Cnt 6 rLri9Anc rLri9Trn (rLri9R loc kl nd8 B12 nd15 B19 nd22 nd23 nd24 nd26 nd27 nd31 nd32 nd33 nd35 nd36) := by
  intro k9 L9 α α' ix9 hk hcl hα hact ht
  have hp := act_places hact
  replace hp : ix9 ∈ [999, 1999, 2999, 3999, 4999, 5999] := hp
  simp only [List.mem_cons, List.not_mem_nil, or_false] at hp
  rcases hp with rfl | rfl | rfl | rfl | rfl | rfl
  · rfl
  · rfl
  · rfl
  · rfl
  · rfl
  · rfl
def law16riPost (loc kl : Int) (nm : ByteArray) (w0 : World) (X : Nat → Obj → Prop) (e : Ending) (w' : World) : Prop :=
  e = .returned (.bool true) ∧ Own w0 w' [] X
set_option maxRecDepth 100000 in
set_option maxHeartbeats 1000000 in
theorem law16ri (loc kl : Int) (nm : ByteArray) (w0 w : World) (X : Nat → Obj → Prop) (hO : Own w0 w [] X) (hlen : nm.size ≤ 65536) :
    Calls Tryd.prog 5 #[.bool true, .bool false, .int .i32 loc, .int .i32 kl, .string nm] w (law16riPost loc kl nm w0 X) := by
  go_enter Tryd.func5, Tryd.ntmps5
  have hl9 : (nm.size : Int) ≤ 65536 := by omega
  go_wp2_with (first | (go_at_call 39; go_in) | (go_at_call 40; go_in) | (go_at_call 18; go_in) | (go_at_call 23; go_in) | (go_at_call 21; go_in) | (go_at_call 41; go_in) | (go_at_call 42; go_in) | (go_at_call 28; go_in) | (go_at_call 43; go_in) | (go_at_call 22; go_in))
  have hL := hO.apart
  have hX := hO.apartX
  have HL := Lib.hid hL
  have HX := Lib.hid hX
  clear hL hX
  have hP9 := hO.pick [] (by decide)
  have T9 := newDead true true false _ _ _ hP9 
  refine Calls.mono T9 ?_
  clear hP9 T9
  rintro e u1 ⟨nd2, nd3, nd4, nd5, rfl, pr6, hQ⟩
  have hN : Own w0 u1 [row (nd2) 206 nd5, (nd3, .map #[⟨.string ⟨#[95, 95, 115, 117, 112, 101, 114, 87, 114, 97, 112, 112, 101, 114]⟩, .agg #[.int .i32 0, .int .u32 0, .int .u32 2], 0⟩, ⟨.string ⟨#[95, 95, 115, 117, 112, 101, 114, 71, 101, 116]⟩, .agg #[.int .i32 0, .int .u32 0, .int .u32 3], 1⟩, ⟨.string ⟨#[95, 95, 112, 114, 105, 118, 97, 116, 101, 87, 114, 97, 112, 112, 101, 114]⟩, .agg #[.int .i32 0, .int .u32 0, .int .u32 4], 2⟩] 3), row (nd4) 68 #[.int .u32 0, .int .u32 1]] X := hQ.back HL.out HX.out [] (by decide) (by decide)
  clear hQ HL HX hO
  have hO := hN
  clear hN
  obtain ⟨c9_2_0, c9_2_1, lt9_2, y9_2, -⟩ := hO.k2 2 rfl
  have HO := Lib.hid hO
  clear hO
  go_wp2_with (first | (go_at_call 39; go_in) | (go_at_call 40; go_in) | (go_at_call 18; go_in) | (go_at_call 23; go_in) | (go_at_call 21; go_in) | (go_at_call 41; go_in) | (go_at_call 42; go_in) | (go_at_call 28; go_in) | (go_at_call 43; go_in) | (go_at_call 22; go_in))
  have hO := HO.out
  clear HO c9_2_0 c9_2_1 lt9_2 y9_2
  have hL := hO.apart
  have hX := hO.apartX
  have HL := Lib.hid hL
  have HX := Lib.hid hX
  clear hL hX
  have hP9 := hO.pick [] (by decide)
  have h9_hlen : nm.size ≤ 1048576 := (by omega)
  have T9 := exprStr kl nm _ _ _ hP9 h9_hlen
  refine Calls.mono T9 ?_
  clear hP9 T9 h9_hlen
  rintro e u7 ⟨nd8, nd9, nd10, nd11, rfl, hQ⟩
  have hN : Own w0 u7 [row (nd8) 214 #[.slice (some ⟨nd9, 0, none⟩) nd10 nd11, .int .i32 0, .bool false, .bool false, .bool false], row (nd2) 206 nd5, (nd3, .map #[⟨.string ⟨#[95, 95, 115, 117, 112, 101, 114, 87, 114, 97, 112, 112, 101, 114]⟩, .agg #[.int .i32 0, .int .u32 0, .int .u32 2], 0⟩, ⟨.string ⟨#[95, 95, 115, 117, 112, 101, 114, 71, 101, 116]⟩, .agg #[.int .i32 0, .int .u32 0, .int .u32 3], 1⟩, ⟨.string ⟨#[95, 95, 112, 114, 105, 118, 97, 116, 101, 87, 114, 97, 112, 112, 101, 114]⟩, .agg #[.int .i32 0, .int .u32 0, .int .u32 4], 2⟩] 3), row (nd4) 68 #[.int .u32 0, .int .u32 1]] X := hQ.back HL.out HX.out [0, 1, 2] (by decide) (by decide)
  clear hQ HL HX hO
  have hO := hN
  clear hN
  obtain ⟨c9_0_0, c9_0_1, c9_0_2, c9_0_3, c9_0_4, lt9_0, y9_0, -⟩ := hO.k5 0 rfl
  obtain ⟨c9_3_0, c9_3_1, lt9_3, y9_3, -⟩ := hO.k2 3 rfl
  have HO := Lib.hid hO
  clear hO
  go_wp2_with (first | (go_at_call 39; go_in) | (go_at_call 40; go_in) | (go_at_call 18; go_in) | (go_at_call 23; go_in) | (go_at_call 21; go_in) | (go_at_call 41; go_in) | (go_at_call 42; go_in) | (go_at_call 28; go_in) | (go_at_call 43; go_in) | (go_at_call 22; go_in))
  have hO := HO.out
  clear HO c9_0_0 c9_0_1 c9_0_2 c9_0_3 c9_0_4 lt9_0 y9_0 c9_3_0 c9_3_1 lt9_3 y9_3
  generalize hW : World.alloc _ _ = W13
  have hN : Own w0 W13 [row (u7.heap.size) 30 #[.iface 50 (.pointer (some ⟨nd8, 0, none⟩)), .int .i32 kl], row (nd8) 214 #[.slice (some ⟨nd9, 0, none⟩) nd10 nd11, .int .i32 0, .bool false, .bool false, .bool false], row (nd2) 206 nd5, (nd3, .map #[⟨.string ⟨#[95, 95, 115, 117, 112, 101, 114, 87, 114, 97, 112, 112, 101, 114]⟩, .agg #[.int .i32 0, .int .u32 0, .int .u32 2], 0⟩, ⟨.string ⟨#[95, 95, 115, 117, 112, 101, 114, 71, 101, 116]⟩, .agg #[.int .i32 0, .int .u32 0, .int .u32 3], 1⟩, ⟨.string ⟨#[95, 95, 112, 114, 105, 118, 97, 116, 101, 87, 114, 97, 112, 112, 101, 114]⟩, .agg #[.int .i32 0, .int .u32 0, .int .u32 4], 2⟩] 3), row (nd4) 68 #[.int .u32 0, .int .u32 1]] X := by
    rw [← hW]
    exact (hO).alloc' _ (u7.heap.size) (by simp)
  clear hW hO
  generalize u7.heap.size = B12 at hN ⊢
  have hO := hN
  clear hN
  have hL := hO.apart
  have hX := hO.apartX
  have HL := Lib.hid hL
  have HX := Lib.hid hX
  clear hL hX
  have hP9 := hO.pick [] (by decide)
  have h9_hlen : nm.size ≤ 1048576 := (by omega)
  have T9 := exprStr kl nm _ _ _ hP9 h9_hlen
  refine Calls.mono T9 ?_
  clear hP9 T9 h9_hlen
  rintro e u14 ⟨nd15, nd16, nd17, nd18, rfl, hQ⟩
  have hN : Own w0 u14 [row (nd15) 214 #[.slice (some ⟨nd16, 0, none⟩) nd17 nd18, .int .i32 0, .bool false, .bool false, .bool false], row (B12) 30 #[.iface 50 (.pointer (some ⟨nd8, 0, none⟩)), .int .i32 kl], row (nd8) 214 #[.slice (some ⟨nd9, 0, none⟩) nd10 nd11, .int .i32 0, .bool false, .bool false, .bool false], row (nd2) 206 nd5, (nd3, .map #[⟨.string ⟨#[95, 95, 115, 117, 112, 101, 114, 87, 114, 97, 112, 112, 101, 114]⟩, .agg #[.int .i32 0, .int .u32 0, .int .u32 2], 0⟩, ⟨.string ⟨#[95, 95, 115, 117, 112, 101, 114, 71, 101, 116]⟩, .agg #[.int .i32 0, .int .u32 0, .int .u32 3], 1⟩, ⟨.string ⟨#[95, 95, 112, 114, 105, 118, 97, 116, 101, 87, 114, 97, 112, 112, 101, 114]⟩, .agg #[.int .i32 0, .int .u32 0, .int .u32 4], 2⟩] 3), row (nd4) 68 #[.int .u32 0, .int .u32 1]] X := hQ.back HL.out HX.out [0, 1, 2, 3, 4] (by decide) (by decide)
  clear hQ HL HX hO
  have hO := hN
  clear hN
  have ne9_0_2 : ¬ nd15 = nd8 := hO.ne 0 2 rfl rfl (by decide)
  have ne9_2_0 : ¬ nd8 = nd15 := hO.ne 2 0 rfl rfl (by decide)
  obtain ⟨c9_0_0, c9_0_1, c9_0_2, c9_0_3, c9_0_4, lt9_0, y9_0, pl9_0⟩ := hO.k5 0 rfl
  obtain ⟨c9_1_0, c9_1_1, lt9_1, y9_1, -⟩ := hO.k2 1 rfl
  obtain ⟨c9_2_0, c9_2_1, c9_2_2, c9_2_3, c9_2_4, lt9_2, y9_2, pl9_2⟩ := hO.k5 2 rfl
  obtain ⟨c9_5_0, c9_5_1, lt9_5, y9_5, -⟩ := hO.k2 5 rfl
  have HO := Lib.hid hO
  clear hO
  go_wp2_with (first | (go_at_call 39; go_in) | (go_at_call 40; go_in) | (go_at_call 18; go_in) | (go_at_call 23; go_in) | (go_at_call 21; go_in) | (go_at_call 41; go_in) | (go_at_call 42; go_in) | (go_at_call 28; go_in) | (go_at_call 43; go_in) | (go_at_call 22; go_in))
  have hO := HO.out
  clear HO ne9_0_2 ne9_2_0 c9_0_0 c9_0_1 c9_0_2 c9_0_3 c9_0_4 lt9_0 y9_0 pl9_0 c9_1_0 c9_1_1 lt9_1 y9_1 c9_2_0 c9_2_1 c9_2_2 c9_2_3 c9_2_4 lt9_2 y9_2 pl9_2 c9_5_0 c9_5_1 lt9_5 y9_5
  generalize hW : World.alloc _ _ = W20
  have hN : Own w0 W20 [row (u14.heap.size) 30 #[.iface 50 (.pointer (some ⟨nd15, 0, none⟩)), .int .i32 kl], row (nd15) 214 #[.slice (some ⟨nd16, 0, none⟩) nd17 nd18, .int .i32 0, .bool false, .bool false, .bool false], row (B12) 30 #[.iface 50 (.pointer (some ⟨nd8, 0, none⟩)), .int .i32 kl], row (nd8) 214 #[.slice (some ⟨nd9, 0, none⟩) nd10 nd11, .int .i32 0, .bool false, .bool false, .bool false], row (nd2) 206 nd5, (nd3, .map #[⟨.string ⟨#[95, 95, 115, 117, 112, 101, 114, 87, 114, 97, 112, 112, 101, 114]⟩, .agg #[.int .i32 0, .int .u32 0, .int .u32 2], 0⟩, ⟨.string ⟨#[95, 95, 115, 117, 112, 101, 114, 71, 101, 116]⟩, .agg #[.int .i32 0, .int .u32 0, .int .u32 3], 1⟩, ⟨.string ⟨#[95, 95, 112, 114, 105, 118, 97, 116, 101, 87, 114, 97, 112, 112, 101, 114]⟩, .agg #[.int .i32 0, .int .u32 0, .int .u32 4], 2⟩] 3), row (nd4) 68 #[.int .u32 0, .int .u32 1]] X := by
    rw [← hW]
    exact (hO).alloc' _ (u14.heap.size) (by simp)
  clear hW hO
  generalize u14.heap.size = B19 at hN ⊢
  have hO := hN
  clear hN
  have hL := hO.apart
  have hX := hO.apartX
  have HL := Lib.hid hL
  have HX := Lib.hid hX
  clear hL hX
  have hP9 := hO.pick [4, 5, 6] (by decide)
  have T9 := dsupGetri nd2 nd5 nd3 nd4 loc 50 nd8 kl _ _ _ hP9 pr6
  refine Calls.mono T9 ?_
  clear hP9 T9
  rintro e u21 ⟨nd22, nd23, nd24, nd25, nd26, nd27, rfl, hQ⟩
  have hN : Own w0 u21 [row (nd2) 206 nd5, (nd3, .map #[⟨.string ⟨#[95, 95, 115, 117, 112, 101, 114, 87, 114, 97, 112, 112, 101, 114]⟩, .agg #[.int .i32 0, .int .u32 0, .int .u32 2], 0⟩, ⟨.string ⟨#[95, 95, 115, 117, 112, 101, 114, 71, 101, 116]⟩, .agg #[.int .i32 0, .int .u32 0, .int .u32 3], 1⟩, ⟨.string ⟨#[95, 95, 112, 114, 105, 118, 97, 116, 101, 87, 114, 97, 112, 112, 101, 114]⟩, .agg #[.int .i32 0, .int .u32 0, .int .u32 4], 2⟩] 3), row (nd4) 68 #[.int .u32 0, .int .u32 1], row (nd23) 223 #[.int .u32 0, .int .u32 3, .bool false, .bool false, .bool false], row (nd22) 56 #[.iface 220 (.pointer (some ⟨nd23, 0, none⟩)), .int .i32 loc, .slice (some ⟨nd24, 0, none⟩) 3 3, .int .i32 0, .int .u8 0, .int .u8 0, .bool false, .bool false], row (nd24) 30 #[.iface 40 (.pointer (some ⟨nd27, 0, none⟩)), .int .i32 loc, .iface 220 (.pointer (some ⟨nd26, 0, none⟩)), .int .i32 loc, .iface 50 (.pointer (some ⟨nd8, 0, none⟩)), .int .i32 kl], row (nd25) 223 #[.int .u32 0, .int .u32 1, .bool false, .bool false, .bool false], row (nd26) 223 #[.int .u32 0, .int .u32 1, .bool false, .bool false, .bool false], row (nd27) 44 #[.iface 220 (.pointer (some ⟨nd25, 0, none⟩)), .int .i32 loc, .string ⟨#[112, 114, 111, 116, 111, 116, 121, 112, 101]⟩, .int .i32 loc, .int .u8 0, .bool false, .bool false, .bool false], row (B19) 30 #[.iface 50 (.pointer (some ⟨nd15, 0, none⟩)), .int .i32 kl], row (nd15) 214 #[.slice (some ⟨nd16, 0, none⟩) nd17 nd18, .int .i32 0, .bool false, .bool false, .bool false], row (B12) 30 #[.iface 50 (.pointer (some ⟨nd8, 0, none⟩)), .int .i32 kl], row (nd8) 214 #[.slice (some ⟨nd9, 0, none⟩) nd10 nd11, .int .i32 0, .bool false, .bool false, .bool false]] X := hQ.back HL.out HX.out [0, 1, 2, 3] (by decide) (by decide)
  clear hQ HL HX hO
  have hO := hN
  clear hN
  have ne9_3_6 : ¬ nd23 = nd25 := hO.ne 3 6 rfl rfl (by decide)
  have ne9_3_7 : ¬ nd23 = nd26 := hO.ne 3 7 rfl rfl (by decide)
  have ne9_5_9 : ¬ nd24 = B19 := hO.ne 5 9 rfl rfl (by decide)
  have ne9_5_11 : ¬ nd24 = B12 := hO.ne 5 11 rfl rfl (by decide)
  have ne9_6_3 : ¬ nd25 = nd23 := hO.ne 6 3 rfl rfl (by decide)
  have ne9_6_7 : ¬ nd25 = nd26 := hO.ne 6 7 rfl rfl (by decide)
  have ne9_7_3 : ¬ nd26 = nd23 := hO.ne 7 3 rfl rfl (by decide)
  have ne9_7_6 : ¬ nd26 = nd25 := hO.ne 7 6 rfl rfl (by decide)
  have ne9_9_5 : ¬ B19 = nd24 := hO.ne 9 5 rfl rfl (by decide)
  have ne9_9_11 : ¬ B19 = B12 := hO.ne 9 11 rfl rfl (by decide)
  have ne9_10_12 : ¬ nd15 = nd8 := hO.ne 10 12 rfl rfl (by decide)
  have ne9_11_5 : ¬ B12 = nd24 := hO.ne 11 5 rfl rfl (by decide)
  have ne9_11_9 : ¬ B12 = B19 := hO.ne 11 9 rfl rfl (by decide)
  have ne9_12_10 : ¬ nd8 = nd15 := hO.ne 12 10 rfl rfl (by decide)
  obtain ⟨c9_2_0, c9_2_1, lt9_2, y9_2, -⟩ := hO.k2 2 rfl
  obtain ⟨c9_3_0, c9_3_1, c9_3_2, c9_3_3, c9_3_4, lt9_3, y9_3, pl9_3⟩ := hO.k5 3 rfl
  obtain ⟨c9_4_0, c9_4_1, c9_4_2, c9_4_3, c9_4_4, c9_4_5, c9_4_6, c9_4_7, lt9_4, y9_4, -⟩ := hO.k8 4 rfl
  obtain ⟨c9_5_0, c9_5_1, c9_5_2, c9_5_3, c9_5_4, c9_5_5, lt9_5, y9_5, pl9_5⟩ := hO.k6 5 rfl
  obtain ⟨c9_6_0, c9_6_1, c9_6_2, c9_6_3, c9_6_4, lt9_6, y9_6, pl9_6⟩ := hO.k5 6 rfl
  obtain ⟨c9_7_0, c9_7_1, c9_7_2, c9_7_3, c9_7_4, lt9_7, y9_7, pl9_7⟩ := hO.k5 7 rfl
  obtain ⟨c9_8_0, c9_8_1, c9_8_2, c9_8_3, c9_8_4, c9_8_5, c9_8_6, c9_8_7, lt9_8, y9_8, -⟩ := hO.k8 8 rfl
  obtain ⟨c9_9_0, c9_9_1, lt9_9, y9_9, pl9_9⟩ := hO.k2 9 rfl
  obtain ⟨c9_10_0, c9_10_1, c9_10_2, c9_10_3, c9_10_4, lt9_10, y9_10, pl9_10⟩ := hO.k5 10 rfl
  obtain ⟨c9_11_0, c9_11_1, lt9_11, y9_11, pl9_11⟩ := hO.k2 11 rfl
  obtain ⟨c9_12_0, c9_12_1, c9_12_2, c9_12_3, c9_12_4, lt9_12, y9_12, pl9_12⟩ := hO.k5 12 rfl
  have HO := Lib.hid hO
  clear hO
  go_wp2_with (first | (go_at_call 39; go_in) | (go_at_call 40; go_in) | (go_at_call 18; go_in) | (go_at_call 23; go_in) | (go_at_call 21; go_in) | (go_at_call 41; go_in) | (go_at_call 42; go_in) | (go_at_call 28; go_in) | (go_at_call 43; go_in) | (go_at_call 22; go_in))
  have hO := HO.out
  clear HO ne9_3_6 ne9_3_7 ne9_5_9 ne9_5_11 ne9_6_3 ne9_6_7 ne9_7_3 ne9_7_6 ne9_9_5 ne9_9_11 ne9_10_12 ne9_11_5 ne9_11_9 ne9_12_10 c9_2_0 c9_2_1 lt9_2 y9_2 c9_3_0 c9_3_1 c9_3_2 c9_3_3 c9_3_4 lt9_3 y9_3 pl9_3 c9_4_0 c9_4_1 c9_4_2 c9_4_3 c9_4_4 c9_4_5 c9_4_6 c9_4_7 lt9_4 y9_4 c9_5_0 c9_5_1 c9_5_2 c9_5_3 c9_5_4 c9_5_5 lt9_5 y9_5 pl9_5 c9_6_0 c9_6_1 c9_6_2 c9_6_3 c9_6_4 lt9_6 y9_6 pl9_6 c9_7_0 c9_7_1 c9_7_2 c9_7_3 c9_7_4 lt9_7 y9_7 pl9_7 c9_8_0 c9_8_1 c9_8_2 c9_8_3 c9_8_4 c9_8_5 c9_8_6 c9_8_7 lt9_8 y9_8 c9_9_0 c9_9_1 lt9_9 y9_9 pl9_9 c9_10_0 c9_10_1 c9_10_2 c9_10_3 c9_10_4 lt9_10 y9_10 pl9_10 c9_11_0 c9_11_1 lt9_11 y9_11 pl9_11 c9_12_0 c9_12_1 c9_12_2 c9_12_3 c9_12_4 lt9_12 y9_12 pl9_12
  generalize hW : World.alloc _ _ = W29
  have hN : Own w0 W29 [row (u21.heap.size) 30 #[.iface 52 (.pointer (some ⟨nd22, 0, none⟩)), .int .i32 loc], row (nd2) 206 nd5, (nd3, .map #[⟨.string ⟨#[95, 95, 115, 117, 112, 101, 114, 87, 114, 97, 112, 112, 101, 114]⟩, .agg #[.int .i32 0, .int .u32 0, .int .u32 2], 0⟩, ⟨.string ⟨#[95, 95, 115, 117, 112, 101, 114, 71, 101, 116]⟩, .agg #[.int .i32 0, .int .u32 0, .int .u32 3], 1⟩, ⟨.string ⟨#[95, 95, 112, 114, 105, 118, 97, 116, 101, 87, 114, 97, 112, 112, 101, 114]⟩, .agg #[.int .i32 0, .int .u32 0, .int .u32 4], 2⟩] 3), row (nd4) 68 #[.int .u32 0, .int .u32 1], row (nd23) 223 #[.int .u32 0, .int .u32 3, .bool false, .bool false, .bool false], row (nd22) 56 #[.iface 220 (.pointer (some ⟨nd23, 0, none⟩)), .int .i32 loc, .slice (some ⟨nd24, 0, none⟩) 3 3, .int .i32 0, .int .u8 0, .int .u8 0, .bool false, .bool false], row (nd24) 30 #[.iface 40 (.pointer (some ⟨nd27, 0, none⟩)), .int .i32 loc, .iface 220 (.pointer (some ⟨nd26, 0, none⟩)), .int .i32 loc, .iface 50 (.pointer (some ⟨nd8, 0, none⟩)), .int .i32 kl], row (nd25) 223 #[.int .u32 0, .int .u32 1, .bool false, .bool false, .bool false], row (nd26) 223 #[.int .u32 0, .int .u32 1, .bool false, .bool false, .bool false], row (nd27) 44 #[.iface 220 (.pointer (some ⟨nd25, 0, none⟩)), .int .i32 loc, .string ⟨#[112, 114, 111, 116, 111, 116, 121, 112, 101]⟩, .int .i32 loc, .int .u8 0, .bool false, .bool false, .bool false], row (B19) 30 #[.iface 50 (.pointer (some ⟨nd15, 0, none⟩)), .int .i32 kl], row (nd15) 214 #[.slice (some ⟨nd16, 0, none⟩) nd17 nd18, .int .i32 0, .bool false, .bool false, .bool false], row (B12) 30 #[.iface 50 (.pointer (some ⟨nd8, 0, none⟩)), .int .i32 kl], row (nd8) 214 #[.slice (some ⟨nd9, 0, none⟩) nd10 nd11, .int .i32 0, .bool false, .bool false, .bool false]] X := by
    rw [← hW]
    exact (hO).alloc' _ (u21.heap.size) (by simp)
  clear hW hO
  generalize u21.heap.size = B28 at hN ⊢
  have hO := hN
  clear hN
  have hL := hO.apart
  have hX := hO.apartX
  have HL := Lib.hid hL
  have HX := Lib.hid hX
  clear hL hX
  have hP9 := hO.pick [1, 2, 3] (by decide)
  have T9 := dsupGetri nd2 nd5 nd3 nd4 loc 50 nd15 kl _ _ _ hP9 pr6
  refine Calls.mono T9 ?_
  clear hP9 T9
  rintro e u30 ⟨nd31, nd32, nd33, nd34, nd35, nd36, rfl, hQ⟩
  have hN : Own w0 u30 [row (nd2) 206 nd5, (nd3, .map #[⟨.string ⟨#[95, 95, 115, 117, 112, 101, 114, 87, 114, 97, 112, 112, 101, 114]⟩, .agg #[.int .i32 0, .int .u32 0, .int .u32 2], 0⟩, ⟨.string ⟨#[95, 95, 115, 117, 112, 101, 114, 71, 101, 116]⟩, .agg #[.int .i32 0, .int .u32 0, .int .u32 3], 1⟩, ⟨.string ⟨#[95, 95, 112, 114, 105, 118, 97, 116, 101, 87, 114, 97, 112, 112, 101, 114]⟩, .agg #[.int .i32 0, .int .u32 0, .int .u32 4], 2⟩] 3), row (nd4) 68 #[.int .u32 0, .int .u32 1], row (nd32) 223 #[.int .u32 0, .int .u32 3, .bool false, .bool false, .bool false], row (nd31) 56 #[.iface 220 (.pointer (some ⟨nd32, 0, none⟩)), .int .i32 loc, .slice (some ⟨nd33, 0, none⟩) 3 3, .int .i32 0, .int .u8 0, .int .u8 0, .bool false, .bool false], row (nd33) 30 #[.iface 40 (.pointer (some ⟨nd36, 0, none⟩)), .int .i32 loc, .iface 220 (.pointer (some ⟨nd35, 0, none⟩)), .int .i32 loc, .iface 50 (.pointer (some ⟨nd15, 0, none⟩)), .int .i32 kl], row (nd34) 223 #[.int .u32 0, .int .u32 1, .bool false, .bool false, .bool false], row (nd35) 223 #[.int .u32 0, .int .u32 1, .bool false, .bool false, .bool false], row (nd36) 44 #[.iface 220 (.pointer (some ⟨nd34, 0, none⟩)), .int .i32 loc, .string ⟨#[112, 114, 111, 116, 111, 116, 121, 112, 101]⟩, .int .i32 loc, .int .u8 0, .bool false, .bool false, .bool false], row (B28) 30 #[.iface 52 (.pointer (some ⟨nd22, 0, none⟩)), .int .i32 loc], row (nd23) 223 #[.int .u32 0, .int .u32 3, .bool false, .bool false, .bool false], row (nd22) 56 #[.iface 220 (.pointer (some ⟨nd23, 0, none⟩)), .int .i32 loc, .slice (some ⟨nd24, 0, none⟩) 3 3, .int .i32 0, .int .u8 0, .int .u8 0, .bool false, .bool false], row (nd24) 30 #[.iface 40 (.pointer (some ⟨nd27, 0, none⟩)), .int .i32 loc, .iface 220 (.pointer (some ⟨nd26, 0, none⟩)), .int .i32 loc, .iface 50 (.pointer (some ⟨nd8, 0, none⟩)), .int .i32 kl], row (nd25) 223 #[.int .u32 0, .int .u32 1, .bool false, .bool false, .bool false], row (nd26) 223 #[.int .u32 0, .int .u32 1, .bool false, .bool false, .bool false], row (nd27) 44 #[.iface 220 (.pointer (some ⟨nd25, 0, none⟩)), .int .i32 loc, .string ⟨#[112, 114, 111, 116, 111, 116, 121, 112, 101]⟩, .int .i32 loc, .int .u8 0, .bool false, .bool false, .bool false], row (B19) 30 #[.iface 50 (.pointer (some ⟨nd15, 0, none⟩)), .int .i32 kl], row (nd15) 214 #[.slice (some ⟨nd16, 0, none⟩) nd17 nd18, .int .i32 0, .bool false, .bool false, .bool false], row (B12) 30 #[.iface 50 (.pointer (some ⟨nd8, 0, none⟩)), .int .i32 kl], row (nd8) 214 #[.slice (some ⟨nd9, 0, none⟩) nd10 nd11, .int .i32 0, .bool false, .bool false, .bool false]] X := hQ.back HL.out HX.out [0, 4, 5, 6, 7, 8, 9, 10, 11, 12, 13] (by decide) (by decide)
  clear hQ HL HX hO
  have hO := hN
  clear hN
  have hN : Own w0 u30 [row (nd32) 223 #[.int .u32 0, .int .u32 3, .bool false, .bool false, .bool false], row (nd31) 56 #[.iface 220 (.pointer (some ⟨nd32, 0, none⟩)), .int .i32 loc, .slice (some ⟨nd33, 0, none⟩) 3 3, .int .i32 0, .int .u8 0, .int .u8 0, .bool false, .bool false], row (nd33) 30 #[.iface 40 (.pointer (some ⟨nd36, 0, none⟩)), .int .i32 loc, .iface 220 (.pointer (some ⟨nd35, 0, none⟩)), .int .i32 loc, .iface 50 (.pointer (some ⟨nd15, 0, none⟩)), .int .i32 kl], row (nd34) 223 #[.int .u32 0, .int .u32 1, .bool false, .bool false, .bool false], row (nd35) 223 #[.int .u32 0, .int .u32 1, .bool false, .bool false, .bool false], row (nd36) 44 #[.iface 220 (.pointer (some ⟨nd34, 0, none⟩)), .int .i32 loc, .string ⟨#[112, 114, 111, 116, 111, 116, 121, 112, 101]⟩, .int .i32 loc, .int .u8 0, .bool false, .bool false, .bool false], row (B28) 30 #[.iface 52 (.pointer (some ⟨nd22, 0, none⟩)), .int .i32 loc], row (nd23) 223 #[.int .u32 0, .int .u32 3, .bool false, .bool false, .bool false], row (nd22) 56 #[.iface 220 (.pointer (some ⟨nd23, 0, none⟩)), .int .i32 loc, .slice (some ⟨nd24, 0, none⟩) 3 3, .int .i32 0, .int .u8 0, .int .u8 0, .bool false, .bool false], row (nd24) 30 #[.iface 40 (.pointer (some ⟨nd27, 0, none⟩)), .int .i32 loc, .iface 220 (.pointer (some ⟨nd26, 0, none⟩)), .int .i32 loc, .iface 50 (.pointer (some ⟨nd8, 0, none⟩)), .int .i32 kl], row (nd25) 223 #[.int .u32 0, .int .u32 1, .bool false, .bool false, .bool false], row (nd26) 223 #[.int .u32 0, .int .u32 1, .bool false, .bool false, .bool false], row (nd27) 44 #[.iface 220 (.pointer (some ⟨nd25, 0, none⟩)), .int .i32 loc, .string ⟨#[112, 114, 111, 116, 111, 116, 121, 112, 101]⟩, .int .i32 loc, .int .u8 0, .bool false, .bool false, .bool false], row (B19) 30 #[.iface 50 (.pointer (some ⟨nd15, 0, none⟩)), .int .i32 kl], row (nd15) 214 #[.slice (some ⟨nd16, 0, none⟩) nd17 nd18, .int .i32 0, .bool false, .bool false, .bool false], row (B12) 30 #[.iface 50 (.pointer (some ⟨nd8, 0, none⟩)), .int .i32 kl], row (nd8) 214 #[.slice (some ⟨nd9, 0, none⟩) nd10 nd11, .int .i32 0, .bool false, .bool false, .bool false]] X := hO.sub [3, 4, 5, 6, 7, 8, 9, 10, 11, 12, 13, 14, 15, 16, 17, 18, 19] (by decide)
  clear hO
  have hO := hN
  clear hN
  have ne9_0_3 : ¬ nd32 = nd34 := hO.ne 0 3 rfl rfl (by decide)
  have ne9_0_4 : ¬ nd32 = nd35 := hO.ne 0 4 rfl rfl (by decide)
  have ne9_0_7 : ¬ nd32 = nd23 := hO.ne 0 7 rfl rfl (by decide)
  have ne9_0_10 : ¬ nd32 = nd25 := hO.ne 0 10 rfl rfl (by decide)
  have ne9_0_11 : ¬ nd32 = nd26 := hO.ne 0 11 rfl rfl (by decide)
  have ne9_1_8 : ¬ nd31 = nd22 := hO.ne 1 8 rfl rfl (by decide)
  have ne9_2_6 : ¬ nd33 = B28 := hO.ne 2 6 rfl rfl (by decide)
  have ne9_2_9 : ¬ nd33 = nd24 := hO.ne 2 9 rfl rfl (by decide)
  have ne9_2_13 : ¬ nd33 = B19 := hO.ne 2 13 rfl rfl (by decide)
  have ne9_2_15 : ¬ nd33 = B12 := hO.ne 2 15 rfl rfl (by decide)
  have ne9_3_0 : ¬ nd34 = nd32 := hO.ne 3 0 rfl rfl (by decide)
  have ne9_3_4 : ¬ nd34 = nd35 := hO.ne 3 4 rfl rfl (by decide)
  have ne9_3_7 : ¬ nd34 = nd23 := hO.ne 3 7 rfl rfl (by decide)
  have ne9_3_10 : ¬ nd34 = nd25 := hO.ne 3 10 rfl rfl (by decide)
  have ne9_3_11 : ¬ nd34 = nd26 := hO.ne 3 11 rfl rfl (by decide)
  have ne9_4_0 : ¬ nd35 = nd32 := hO.ne 4 0 rfl rfl (by decide)
  have ne9_4_3 : ¬ nd35 = nd34 := hO.ne 4 3 rfl rfl (by decide)
  have ne9_4_7 : ¬ nd35 = nd23 := hO.ne 4 7 rfl rfl (by decide)
  have ne9_4_10 : ¬ nd35 = nd25 := hO.ne 4 10 rfl rfl (by decide)
  have ne9_4_11 : ¬ nd35 = nd26 := hO.ne 4 11 rfl rfl (by decide)
  have ne9_5_12 : ¬ nd36 = nd27 := hO.ne 5 12 rfl rfl (by decide)
  have ne9_6_2 : ¬ B28 = nd33 := hO.ne 6 2 rfl rfl (by decide)
  have ne9_6_9 : ¬ B28 = nd24 := hO.ne 6 9 rfl rfl (by decide)
  have ne9_6_13 : ¬ B28 = B19 := hO.ne 6 13 rfl rfl (by decide)
  have ne9_6_15 : ¬ B28 = B12 := hO.ne 6 15 rfl rfl (by decide)
  have ne9_7_0 : ¬ nd23 = nd32 := hO.ne 7 0 rfl rfl (by decide)
  have ne9_7_3 : ¬ nd23 = nd34 := hO.ne 7 3 rfl rfl (by decide)
  have ne9_7_4 : ¬ nd23 = nd35 := hO.ne 7 4 rfl rfl (by decide)
  have ne9_7_10 : ¬ nd23 = nd25 := hO.ne 7 10 rfl rfl (by decide)
  have ne9_7_11 : ¬ nd23 = nd26 := hO.ne 7 11 rfl rfl (by decide)
  have ne9_8_1 : ¬ nd22 = nd31 := hO.ne 8 1 rfl rfl (by decide)
  have ne9_9_2 : ¬ nd24 = nd33 := hO.ne 9 2 rfl rfl (by decide)
  have ne9_9_6 : ¬ nd24 = B28 := hO.ne 9 6 rfl rfl (by decide)
  have ne9_9_13 : ¬ nd24 = B19 := hO.ne 9 13 rfl rfl (by decide)
  have ne9_9_15 : ¬ nd24 = B12 := hO.ne 9 15 rfl rfl (by decide)
  have ne9_10_0 : ¬ nd25 = nd32 := hO.ne 10 0 rfl rfl (by decide)
  have ne9_10_3 : ¬ nd25 = nd34 := hO.ne 10 3 rfl rfl (by decide)
  have ne9_10_4 : ¬ nd25 = nd35 := hO.ne 10 4 rfl rfl (by decide)
  have ne9_10_7 : ¬ nd25 = nd23 := hO.ne 10 7 rfl rfl (by decide)
  have ne9_10_11 : ¬ nd25 = nd26 := hO.ne 10 11 rfl rfl (by decide)
  have ne9_11_0 : ¬ nd26 = nd32 := hO.ne 11 0 rfl rfl (by decide)
  have ne9_11_3 : ¬ nd26 = nd34 := hO.ne 11 3 rfl rfl (by decide)
  have ne9_11_4 : ¬ nd26 = nd35 := hO.ne 11 4 rfl rfl (by decide)
  have ne9_11_7 : ¬ nd26 = nd23 := hO.ne 11 7 rfl rfl (by decide)
  have ne9_11_10 : ¬ nd26 = nd25 := hO.ne 11 10 rfl rfl (by decide)
  have ne9_12_5 : ¬ nd27 = nd36 := hO.ne 12 5 rfl rfl (by decide)
  have ne9_13_2 : ¬ B19 = nd33 := hO.ne 13 2 rfl rfl (by decide)
  have ne9_13_6 : ¬ B19 = B28 := hO.ne 13 6 rfl rfl (by decide)
  have ne9_13_9 : ¬ B19 = nd24 := hO.ne 13 9 rfl rfl (by decide)
  have ne9_13_15 : ¬ B19 = B12 := hO.ne 13 15 rfl rfl (by decide)
  have ne9_14_16 : ¬ nd15 = nd8 := hO.ne 14 16 rfl rfl (by decide)
  have ne9_15_2 : ¬ B12 = nd33 := hO.ne 15 2 rfl rfl (by decide)
  have ne9_15_6 : ¬ B12 = B28 := hO.ne 15 6 rfl rfl (by decide)
  have ne9_15_9 : ¬ B12 = nd24 := hO.ne 15 9 rfl rfl (by decide)
  have ne9_15_13 : ¬ B12 = B19 := hO.ne 15 13 rfl rfl (by decide)
  have ne9_16_14 : ¬ nd8 = nd15 := hO.ne 16 14 rfl rfl (by decide)
  obtain ⟨c9_0_0, c9_0_1, c9_0_2, c9_0_3, c9_0_4, lt9_0, y9_0, pl9_0⟩ := hO.k5 0 rfl
  obtain ⟨c9_1_0, c9_1_1, c9_1_2, c9_1_3, c9_1_4, c9_1_5, c9_1_6, c9_1_7, lt9_1, y9_1, pl9_1⟩ := hO.k8 1 rfl
  obtain ⟨c9_2_0, c9_2_1, c9_2_2, c9_2_3, c9_2_4, c9_2_5, lt9_2, y9_2, pl9_2⟩ := hO.k6 2 rfl
  obtain ⟨c9_3_0, c9_3_1, c9_3_2, c9_3_3, c9_3_4, lt9_3, y9_3, pl9_3⟩ := hO.k5 3 rfl
  obtain ⟨c9_4_0, c9_4_1, c9_4_2, c9_4_3, c9_4_4, lt9_4, y9_4, pl9_4⟩ := hO.k5 4 rfl
  obtain ⟨c9_5_0, c9_5_1, c9_5_2, c9_5_3, c9_5_4, c9_5_5, c9_5_6, c9_5_7, lt9_5, y9_5, pl9_5⟩ := hO.k8 5 rfl
  obtain ⟨c9_6_0, c9_6_1, lt9_6, y9_6, pl9_6⟩ := hO.k2 6 rfl
  obtain ⟨c9_7_0, c9_7_1, c9_7_2, c9_7_3, c9_7_4, lt9_7, y9_7, pl9_7⟩ := hO.k5 7 rfl
  obtain ⟨c9_8_0, c9_8_1, c9_8_2, c9_8_3, c9_8_4, c9_8_5, c9_8_6, c9_8_7, lt9_8, y9_8, pl9_8⟩ := hO.k8 8 rfl
  obtain ⟨c9_9_0, c9_9_1, c9_9_2, c9_9_3, c9_9_4, c9_9_5, lt9_9, y9_9, pl9_9⟩ := hO.k6 9 rfl
  obtain ⟨c9_10_0, c9_10_1, c9_10_2, c9_10_3, c9_10_4, lt9_10, y9_10, pl9_10⟩ := hO.k5 10 rfl
  obtain ⟨c9_11_0, c9_11_1, c9_11_2, c9_11_3, c9_11_4, lt9_11, y9_11, pl9_11⟩ := hO.k5 11 rfl
  obtain ⟨c9_12_0, c9_12_1, c9_12_2, c9_12_3, c9_12_4, c9_12_5, c9_12_6, c9_12_7, lt9_12, y9_12, pl9_12⟩ := hO.k8 12 rfl
  obtain ⟨c9_13_0, c9_13_1, lt9_13, y9_13, pl9_13⟩ := hO.k2 13 rfl
  obtain ⟨c9_14_0, c9_14_1, c9_14_2, c9_14_3, c9_14_4, lt9_14, y9_14, pl9_14⟩ := hO.k5 14 rfl
  obtain ⟨c9_15_0, c9_15_1, lt9_15, y9_15, pl9_15⟩ := hO.k2 15 rfl
  obtain ⟨c9_16_0, c9_16_1, c9_16_2, c9_16_3, c9_16_4, lt9_16, y9_16, pl9_16⟩ := hO.k5 16 rfl
  have HO := Lib.hid hO
  clear hO
  go_wp2_with (first | (go_at_call 39; go_in) | (go_at_call 40; go_in) | (go_at_call 18; go_in) | (go_at_call 23; go_in) | (go_at_call 21; go_in) | (go_at_call 41; go_in) | (go_at_call 42; go_in) | (go_at_call 28; go_in) | (go_at_call 43; go_in) | (go_at_call 22; go_in))
  have hO := HO.out
  clear HO ne9_0_3 ne9_0_4 ne9_0_7 ne9_0_10 ne9_0_11 ne9_1_8 ne9_2_6 ne9_2_9 ne9_2_13 ne9_2_15 ne9_3_0 ne9_3_4 ne9_3_7 ne9_3_10 ne9_3_11 ne9_4_0 ne9_4_3 ne9_4_7 ne9_4_10 ne9_4_11 ne9_5_12 ne9_6_2 ne9_6_9 ne9_6_13 ne9_6_15 ne9_7_0 ne9_7_3 ne9_7_4 ne9_7_10 ne9_7_11 ne9_8_1 ne9_9_2 ne9_9_6 ne9_9_13 ne9_9_15 ne9_10_0 ne9_10_3 ne9_10_4 ne9_10_7 ne9_10_11 ne9_11_0 ne9_11_3 ne9_11_4 ne9_11_7 ne9_11_10 ne9_12_5 ne9_13_2 ne9_13_6 ne9_13_9 ne9_13_15 ne9_14_16 ne9_15_2 ne9_15_6 ne9_15_9 ne9_15_13 ne9_16_14 c9_0_0 c9_0_1 c9_0_2 c9_0_3 c9_0_4 lt9_0 y9_0 pl9_0 c9_1_0 c9_1_1 c9_1_2 c9_1_3 c9_1_4 c9_1_5 c9_1_6 c9_1_7 lt9_1 y9_1 pl9_1 c9_2_0 c9_2_1 c9_2_2 c9_2_3 c9_2_4 c9_2_5 lt9_2 y9_2 pl9_2 c9_3_0 c9_3_1 c9_3_2 c9_3_3 c9_3_4 lt9_3 y9_3 pl9_3 c9_4_0 c9_4_1 c9_4_2 c9_4_3 c9_4_4 lt9_4 y9_4 pl9_4 c9_5_0 c9_5_1 c9_5_2 c9_5_3 c9_5_4 c9_5_5 c9_5_6 c9_5_7 lt9_5 y9_5 pl9_5 c9_6_0 c9_6_1 lt9_6 y9_6 pl9_6 c9_7_0 c9_7_1 c9_7_2 c9_7_3 c9_7_4 lt9_7 y9_7 pl9_7 c9_8_0 c9_8_1 c9_8_2 c9_8_3 c9_8_4 c9_8_5 c9_8_6 c9_8_7 lt9_8 y9_8 pl9_8 c9_9_0 c9_9_1 c9_9_2 c9_9_3 c9_9_4 c9_9_5 lt9_9 y9_9 pl9_9 c9_10_0 c9_10_1 c9_10_2 c9_10_3 c9_10_4 lt9_10 y9_10 pl9_10 c9_11_0 c9_11_1 c9_11_2 c9_11_3 c9_11_4 lt9_11 y9_11 pl9_11 c9_12_0 c9_12_1 c9_12_2 c9_12_3 c9_12_4 c9_12_5 c9_12_6 c9_12_7 lt9_12 y9_12 pl9_12 c9_13_0 c9_13_1 lt9_13 y9_13 pl9_13 c9_14_0 c9_14_1 c9_14_2 c9_14_3 c9_14_4 lt9_14 y9_14 pl9_14 c9_15_0 c9_15_1 lt9_15 y9_15 pl9_15 c9_16_0 c9_16_1 c9_16_2 c9_16_3 c9_16_4 lt9_16 y9_16 pl9_16
  generalize hW : World.alloc _ _ = W38
  have hN : Own w0 W38 [row (u30.heap.size + 1 + 1) 30 #[.iface 52 (.pointer (some ⟨nd31, 0, none⟩)), .int .i32 loc], row (u30.heap.size + 1) 30 #[.iface 52 (.pointer (some ⟨nd22, 0, none⟩)), .int .i32 loc], row (u30.heap.size) 30 #[.iface 52 (.pointer (some ⟨nd31, 0, none⟩)), .int .i32 loc], row (nd32) 223 #[.int .u32 0, .int .u32 3, .bool false, .bool false, .bool false], row (nd31) 56 #[.iface 220 (.pointer (some ⟨nd32, 0, none⟩)), .int .i32 loc, .slice (some ⟨nd33, 0, none⟩) 3 3, .int .i32 0, .int .u8 0, .int .u8 0, .bool false, .bool false], row (nd33) 30 #[.iface 40 (.pointer (some ⟨nd36, 0, none⟩)), .int .i32 loc, .iface 220 (.pointer (some ⟨nd35, 0, none⟩)), .int .i32 loc, .iface 50 (.pointer (some ⟨nd15, 0, none⟩)), .int .i32 kl], row (nd34) 223 #[.int .u32 0, .int .u32 1, .bool false, .bool false, .bool false], row (nd35) 223 #[.int .u32 0, .int .u32 1, .bool false, .bool false, .bool false], row (nd36) 44 #[.iface 220 (.pointer (some ⟨nd34, 0, none⟩)), .int .i32 loc, .string ⟨#[112, 114, 111, 116, 111, 116, 121, 112, 101]⟩, .int .i32 loc, .int .u8 0, .bool false, .bool false, .bool false], row (B28) 30 #[.iface 52 (.pointer (some ⟨nd22, 0, none⟩)), .int .i32 loc], row (nd23) 223 #[.int .u32 0, .int .u32 3, .bool false, .bool false, .bool false], row (nd22) 56 #[.iface 220 (.pointer (some ⟨nd23, 0, none⟩)), .int .i32 loc, .slice (some ⟨nd24, 0, none⟩) 3 3, .int .i32 0, .int .u8 0, .int .u8 0, .bool false, .bool false], row (nd24) 30 #[.iface 40 (.pointer (some ⟨nd27, 0, none⟩)), .int .i32 loc, .iface 220 (.pointer (some ⟨nd26, 0, none⟩)), .int .i32 loc, .iface 50 (.pointer (some ⟨nd8, 0, none⟩)), .int .i32 kl], row (nd25) 223 #[.int .u32 0, .int .u32 1, .bool false, .bool false, .bool false], row (nd26) 223 #[.int .u32 0, .int .u32 1, .bool false, .bool false, .bool false], row (nd27) 44 #[.iface 220 (.pointer (some ⟨nd25, 0, none⟩)), .int .i32 loc, .string ⟨#[112, 114, 111, 116, 111, 116, 121, 112, 101]⟩, .int .i32 loc, .int .u8 0, .bool false, .bool false, .bool false], row (B19) 30 #[.iface 50 (.pointer (some ⟨nd15, 0, none⟩)), .int .i32 kl], row (nd15) 214 #[.slice (some ⟨nd16, 0, none⟩) nd17 nd18, .int .i32 0, .bool false, .bool false, .bool false], row (B12) 30 #[.iface 50 (.pointer (some ⟨nd8, 0, none⟩)), .int .i32 kl], row (nd8) 214 #[.slice (some ⟨nd9, 0, none⟩) nd10 nd11, .int .i32 0, .bool false, .bool false, .bool false]] X := by
    rw [← hW]
    exact (((hO).alloc' _ (u30.heap.size) (by simp)).alloc' _ (u30.heap.size + 1) (by simp)).alloc' _ (u30.heap.size + 1 + 1) (by simp)
  clear hW hO
  generalize u30.heap.size + 1 + 1 = B37_2 at hN ⊢
  generalize u30.heap.size + 1 = B37_1 at hN ⊢
  generalize u30.heap.size = B37 at hN ⊢
  have hO := hN
  clear hN
  have hL := hO.apart
  have hX := hO.apartX
  have HL := Lib.hid hL
  have HX := Lib.hid hX
  clear hL hX
  have hP9 := hO.pick [3, 4, 5, 6, 7, 8, 10, 11, 12, 13, 14, 15] (by decide)
  generalize hX9_39 : Own.Rest _ _ X = X9_39 at hP9
  replace hP9 : Own w0 W38 [row (nd32) 223 #[.int .u32 0, .int .u32 3, .bool false, .bool false, .bool false], row (nd31) 56 #[.iface 220 (.pointer (some ⟨nd32, 0, none⟩)), .int .i32 loc, .slice (some ⟨nd33, 0, none⟩) 3 3, .int .i32 0, .int .u8 0, .int .u8 0, .bool false, .bool false], row (nd33) 30 #[.iface 40 (.pointer (some ⟨nd36, 0, none⟩)), .int .i32 loc, .iface 220 (.pointer (some ⟨nd35, 0, none⟩)), .int .i32 loc, .iface 50 (.pointer (some ⟨nd15, 0, none⟩)), .int .i32 kl], row (nd34) 223 #[.int .u32 0, .int .u32 1, .bool false, .bool false, .bool false], row (nd35) 223 #[.int .u32 0, .int .u32 1, .bool false, .bool false, .bool false], row (nd36) 44 #[.iface 220 (.pointer (some ⟨nd34, 0, none⟩)), .int .i32 loc, .string ⟨#[112, 114, 111, 116, 111, 116, 121, 112, 101]⟩, .int .i32 loc, .int .u8 0, .bool false, .bool false, .bool false], row (nd23) 223 #[.int .u32 0, .int .u32 3, .bool false, .bool false, .bool false], row (nd22) 56 #[.iface 220 (.pointer (some ⟨nd23, 0, none⟩)), .int .i32 loc, .slice (some ⟨nd24, 0, none⟩) 3 3, .int .i32 0, .int .u8 0, .int .u8 0, .bool false, .bool false], row (nd24) 30 #[.iface 40 (.pointer (some ⟨nd27, 0, none⟩)), .int .i32 loc, .iface 220 (.pointer (some ⟨nd26, 0, none⟩)), .int .i32 loc, .iface 50 (.pointer (some ⟨nd8, 0, none⟩)), .int .i32 kl], row (nd25) 223 #[.int .u32 0, .int .u32 1, .bool false, .bool false, .bool false], row (nd26) 223 #[.int .u32 0, .int .u32 1, .bool false, .bool false, .bool false], row (nd27) 44 #[.iface 220 (.pointer (some ⟨nd25, 0, none⟩)), .int .i32 loc, .string ⟨#[112, 114, 111, 116, 111, 116, 121, 112, 101]⟩, .int .i32 loc, .int .u8 0, .bool false, .bool false, .bool false]] X9_39 := hP9
  clear hO
  have hO := hP9
  clear hP9
  have st9 := rLri6_st loc kl nd8 nd15 nd22 nd23 nd24 nd25 nd26 nd27 nd31 nd32 nd33 nd34 nd35 nd36
  refine wp_region_own (e := rLri6E loc kl nd8 nd15 nd22 nd23 nd24 nd25 nd26 nd27 nd31 nd32 nd33 nd34 nd35 nd36) (anc := rLri6Anc) (G := (fun L9 α u9 => OwnF w0 u9 (act rLri6Cnt 12 L9) (rLri6R loc kl nd8 nd15 nd22 nd23 nd24 nd25 nd26 nd27 nd31 nd32 nd33 nd34 nd35 nd36 L9 α) X9_39)) (by kernel_rfl) (by kernel_rfl) (by kernel_rfl) (by kernel_rfl) (rLri6_he loc kl nd8 nd15 nd22 nd23 nd24 nd25 nd26 nd27 nd31 nd32 nd33 nd34 nd35 nd36) ?_ (RunsAll.all ?_) ?_
  · have hp : ∀ i, act rLri6Cnt 12 (fun _ => false) i → i ∈ [999, 1999, 2999, 3999, 4999, 5999, 6999, 7999, 8999, 9999, 10999, 11999] := by
      intro i hi
      have h9 : i % 1000 = 999 := by
        by_cases h : i % 1000 = 999
        · exact h
        · exact absurd (act_lt hi h) (by simp)
      unfold act at hi
      rw [if_pos h9] at hi
      simp only [List.mem_cons, List.not_mem_nil, or_false]
      omega
    refine hO.drew.family (fun i hi => ?_) (fun i j hi hj hij => ?_)
    · have := hp i hi
      simp only [List.mem_cons, List.not_mem_nil, or_false] at this
      rcases this with rfl | rfl | rfl | rfl | rfl | rfl | rfl | rfl | rfl | rfl | rfl | rfl <;> rfl
    · have h1 := hp i hi
      have h2 := hp j hj
      simp only [List.mem_cons, List.not_mem_nil, or_false] at h1 h2
      omega
  · refine ⟨?_, ?_, ?_, ?_, ?_, ?_, ?_, ?_, ?_, ?_, ?_, ?_, ?_, ?_, ?_, ?_, ?_, ?_, ?_, ?_, ?_, ?_, ?_, ?_, ?_, ?_, ?_, ?_, ?_, ?_, ?_, ?_, ?_, ?_, ?_, ?_, ?_, ?_, ?_, ?_, ?_, ?_, trivial⟩
    · intro L9 α a9 u9 K9 hL hcl hA hG hS h0 hK
      replace hL : L9 0 = false := hL
      have q16 : a9.tmps[16]? = some (.pointer (some ⟨nd22, 0, none⟩)) := (h0 16 (by kernel_rfl)).trans rfl
      have s16 := Rega.eval_of q16
      go_simp
      exact hK _ α _ (fun _ _ => rfl) rfl (step_same (st9) hL hcl rfl rfl hG)
    · intro L9 α a9 u9 K9 hL hcl hA hG hS h0 hK
      replace hL : L9 1 = false := hL
      have q74 : a9.tmps[74]? = some (.pointer (some ⟨nd22, 0, none⟩)) := hS 0 74 (by decide) rfl (by show 74 < 178; decide)
      have s74 := Rega.eval_of q74
      go_simp
      exact hK _ α _ (fun _ _ => rfl) rfl (step_same (st9) hL hcl rfl rfl hG)
    · intro L9 α a9 u9 K9 hL hcl hA hG hS h0 hK
      replace hL : L9 2 = false := hL
      have q75 : a9.tmps[75]? = some (.pointer (some ⟨nd22, 0, none⟩)) := hS 1 75 (by decide) rfl (by show 75 < 178; decide)
      have s75 := Rega.eval_of q75
      go_simp
      exact hK _ α _ (fun _ _ => rfl) rfl (step_same (st9) hL hcl rfl rfl hG)
    · intro L9 α a9 u9 K9 hL hcl hA hG hS h0 hK
      replace hL : L9 3 = false := hL
      have q76 : a9.tmps[76]? = some (.pointer (some ⟨nd22, 0, none⟩)) := hS 2 76 (by decide) rfl (by show 76 < 178; decide)
      have s76 := Rega.eval_of q76
      have e0 : rLri6R loc kl nd8 nd15 nd22 nd23 nd24 nd25 nd26 nd27 nd31 nd32 nd33 nd34 nd35 nd36 L9 α 7999 = row (nd22) 56 #[.iface 220 (.pointer (some ⟨nd23, 0, none⟩)), .int .i32 loc, .slice (some ⟨nd24, 0, none⟩) 3 3, .int .i32 0, .int .u8 0, .int .u8 0, .bool false, .bool false] := rfl
      have hr := hG.rowAt 7999 (act_base 7999 rfl) e0
      have c0 : u9.cell? ⟨nd22, 0, none⟩ = some (.iface 220 (.pointer (some ⟨nd23, 0, none⟩))) := hr.cell rfl
      have c1 : u9.cell? ⟨nd22, 1, none⟩ = some (.int .i32 loc) := hr.cell rfl
      clear hr e0
      go_simp
      exact hK _ α _ (fun _ _ => rfl) rfl (step_same (st9) hL hcl rfl rfl hG)
    · intro L9 α a9 u9 K9 hL hcl hA hG hS h0 hK
      replace hL : L9 4 = false := hL
      have q17 : a9.tmps[17]? = some (.pointer (some ⟨nd31, 0, none⟩)) := (h0 17 (by kernel_rfl)).trans rfl
      have s17 := Rega.eval_of q17
      go_simp
      exact hK _ α _ (fun _ _ => rfl) rfl (step_same (st9) hL hcl rfl rfl hG)
    · intro L9 α a9 u9 K9 hL hcl hA hG hS h0 hK
      replace hL : L9 5 = false := hL
      have q78 : a9.tmps[78]? = some (.pointer (some ⟨nd31, 0, none⟩)) := hS 4 78 (by decide) rfl (by show 78 < 178; decide)
      have s78 := Rega.eval_of q78
      go_simp
      exact hK _ α _ (fun _ _ => rfl) rfl (step_same (st9) hL hcl rfl rfl hG)
    · intro L9 α a9 u9 K9 hL hcl hA hG hS h0 hK
      replace hL : L9 6 = false := hL
      have q79 : a9.tmps[79]? = some (.pointer (some ⟨nd31, 0, none⟩)) := hS 5 79 (by decide) rfl (by show 79 < 178; decide)
      have s79 := Rega.eval_of q79
      go_simp
      exact hK _ α _ (fun _ _ => rfl) rfl (step_same (st9) hL hcl rfl rfl hG)
    · intro L9 α a9 u9 K9 hL hcl hA hG hS h0 hK
      replace hL : L9 7 = false := hL
      have q80 : a9.tmps[80]? = some (.pointer (some ⟨nd31, 0, none⟩)) := hS 6 80 (by decide) rfl (by show 80 < 178; decide)
      have s80 := Rega.eval_of q80
      have e0 : rLri6R loc kl nd8 nd15 nd22 nd23 nd24 nd25 nd26 nd27 nd31 nd32 nd33 nd34 nd35 nd36 L9 α 1999 = row (nd31) 56 #[.iface 220 (.pointer (some ⟨nd32, 0, none⟩)), .int .i32 loc, .slice (some ⟨nd33, 0, none⟩) 3 3, .int .i32 0, .int .u8 0, .int .u8 0, .bool false, .bool false] := rfl
      have hr := hG.rowAt 1999 (act_base 1999 rfl) e0
      have c0 : u9.cell? ⟨nd31, 0, none⟩ = some (.iface 220 (.pointer (some ⟨nd32, 0, none⟩))) := hr.cell rfl
      have c1 : u9.cell? ⟨nd31, 1, none⟩ = some (.int .i32 loc) := hr.cell rfl
      clear hr e0
      go_simp
      exact hK _ α _ (fun _ _ => rfl) rfl (step_same (st9) hL hcl rfl rfl hG)
    · intro L9 α a9 u9 K9 hL hcl hA hG hS h0 hK
      replace hL : L9 8 = false := hL
      have q77 : a9.tmps[77]? = some (.agg #[.iface 220 (.pointer (some ⟨nd23, 0, none⟩)), .int .i32 loc]) := hS 3 77 (by decide) rfl (by show 77 < 178; decide)
      have s77 := Rega.eval_of q77
      have q81 : a9.tmps[81]? = some (.agg #[.iface 220 (.pointer (some ⟨nd32, 0, none⟩)), .int .i32 loc]) := hS 7 81 (by decide) rfl (by show 81 < 178; decide)
      have s81 := Rega.eval_of q81
      go_simp
      have e0 : rLri6R loc kl nd8 nd15 nd22 nd23 nd24 nd25 nd26 nd27 nd31 nd32 nd33 nd34 nd35 nd36 L9 α 6999 = row (nd23) 223 #[.int .u32 0, .int .u32 3, .bool false, .bool false, .bool false] := rfl
      have e1 : rLri6R loc kl nd8 nd15 nd22 nd23 nd24 nd25 nd26 nd27 nd31 nd32 nd33 nd34 nd35 nd36 L9 α 999 = row (nd32) 223 #[.int .u32 0, .int .u32 3, .bool false, .bool false, .bool false] := rfl
      have hM : ∀ i, i ∈ [6999, 999] → act rLri6Cnt 12 L9 i := by
        intro i hi
        simp only [List.mem_cons, List.not_mem_nil, or_false] at hi
        rcases hi with rfl | rfl
        · exact act_base 6999 rfl
        · exact act_base 999 rfl
      have hP : Own w0 u9 [row (nd23) 223 #[.int .u32 0, .int .u32 3, .bool false, .bool false, .bool false], row (nd32) 223 #[.int .u32 0, .int .u32 3, .bool false, .bool false, .bool false]] _ := (hG.pick [6999, 999] (by decide) hM).conv (by
        show [rLri6R loc kl nd8 nd15 nd22 nd23 nd24 nd25 nd26 nd27 nd31 nd32 nd33 nd34 nd35 nd36 L9 α 6999, rLri6R loc kl nd8 nd15 nd22 nd23 nd24 nd25 nd26 nd27 nd31 nd32 nd33 nd34 nd35 nd36 L9 α 999] = _
        rw [e0, e1])
      clear e0 e1 hM
      refine Calls.mono (shapeI4 nd23 nd32 loc 0 3 _ _ _ hP ) ?_
      rintro e9 u1 ⟨rfl, hQ⟩
      obtain ⟨α', hα'⟩ : ∃ α' : Rega.Atoms, α' = α := ⟨_, rfl⟩
      have f0 : rLri6R loc kl nd8 nd15 nd22 nd23 nd24 nd25 nd26 nd27 nd31 nd32 nd33 nd34 nd35 nd36 (Rega.ran L9 8) α' 6999 = row (nd23) 223 #[.int .u32 0, .int .u32 3, .bool false, .bool false, .bool false] := rfl
      have f1 : rLri6R loc kl nd8 nd15 nd22 nd23 nd24 nd25 nd26 nd27 nd31 nd32 nd33 nd34 nd35 nd36 (Rega.ran L9 8) α' 999 = row (nd32) 223 #[.int .u32 0, .int .u32 3, .bool false, .bool false, .bool false] := rfl
      have hα : ∀ j, j % 1000 ≠ 8 → α' j = α j := fun j hj => by rw [hα']
      skip
      refine hK _ α' _ hα ?_ (step_call (st9) hL hcl hα [6999, 999] [6999, 999] (by decide) (by decide) (by decide) (M := _) ?_ hG hQ)
      · rfl
      · show [rLri6R loc kl nd8 nd15 nd22 nd23 nd24 nd25 nd26 nd27 nd31 nd32 nd33 nd34 nd35 nd36 (Rega.ran L9 8) α' 6999, rLri6R loc kl nd8 nd15 nd22 nd23 nd24 nd25 nd26 nd27 nd31 nd32 nd33 nd34 nd35 nd36 (Rega.ran L9 8) α' 999] = _
        rw [f0, f1]
    · intro L9 α a9 u9 K9 hL hcl hA hG hS h0 hK
      replace hL : L9 9 = false := hL
      have q82 : a9.tmps[82]? = some (.bool true) := hS 8 82 (by decide) rfl (by show 82 < 178; decide)
      have s82 := Rega.eval_of q82
      go_simp
      exact hK _ α _ (fun _ _ => rfl) rfl (step_same (st9) hL hcl rfl rfl hG)
    · intro L9 α a9 u9 K9 hL hcl hA hG hS h0 hK
      replace hL : L9 10 = false := hL
      have q83 : a9.tmps[83]? = some (.bool false) := hS 9 83 (by decide) rfl (by show 83 < 178; decide)
      have s83 := Rega.eval_of q83
      go_simp
      exact hK _ α _ (fun _ _ => rfl) rfl (step_same (st9) hL hcl rfl rfl hG)
    · intro L9 α a9 u9 K9 hL hcl hA hG hS h0 hK
      replace hL : L9 11 = false := hL
      have q16 : a9.tmps[16]? = some (.pointer (some ⟨nd22, 0, none⟩)) := (h0 16 (by kernel_rfl)).trans rfl
      have s16 := Rega.eval_of q16
      have q84 : a9.tmps[84]? = some (.bool false) := hS 10 84 (by decide) rfl (by show 84 < 178; decide)
      have s84 := Rega.eval_of q84
      go_simp
      exact hK _ α _ (fun _ _ => rfl) rfl (step_same (st9) hL hcl rfl rfl hG)
    · intro L9 α a9 u9 K9 hL hcl hA hG hS h0 hK
      replace hL : L9 12 = false := hL
      have q85 : a9.tmps[85]? = some (.pointer (some ⟨nd22, 0, none⟩)) := hS 11 85 (by decide) rfl (by show 85 < 178; decide)
      have s85 := Rega.eval_of q85
      have q84 : a9.tmps[84]? = some (.bool false) := hS 10 84 (by decide) rfl (by show 84 < 178; decide)
      have s84 := Rega.eval_of q84
      go_simp
      exact hK _ α _ (fun _ _ => rfl) rfl (step_same (st9) hL hcl rfl rfl hG)
    · intro L9 α a9 u9 K9 hL hcl hA hG hS h0 hK
      replace hL : L9 13 = false := hL
      have q86 : a9.tmps[86]? = some (.pointer (some ⟨nd22, 0, none⟩)) := hS 12 86 (by decide) rfl (by show 86 < 178; decide)
      have s86 := Rega.eval_of q86
      have q84 : a9.tmps[84]? = some (.bool false) := hS 10 84 (by decide) rfl (by show 84 < 178; decide)
      have s84 := Rega.eval_of q84
      go_simp
      exact hK _ α _ (fun _ _ => rfl) rfl (step_same (st9) hL hcl rfl rfl hG)
    · intro L9 α a9 u9 K9 hL hcl hA hG hS h0 hK
      replace hL : L9 14 = false := hL
      have q87 : a9.tmps[87]? = some (.pointer (some ⟨nd22, 2, none⟩)) := hS 13 87 (by decide) rfl (by show 87 < 178; decide)
      have s87 := Rega.eval_of q87
      have q84 : a9.tmps[84]? = some (.bool false) := hS 10 84 (by decide) rfl (by show 84 < 178; decide)
      have s84 := Rega.eval_of q84
      have e0 : rLri6R loc kl nd8 nd15 nd22 nd23 nd24 nd25 nd26 nd27 nd31 nd32 nd33 nd34 nd35 nd36 L9 α 7999 = row (nd22) 56 #[.iface 220 (.pointer (some ⟨nd23, 0, none⟩)), .int .i32 loc, .slice (some ⟨nd24, 0, none⟩) 3 3, .int .i32 0, .int .u8 0, .int .u8 0, .bool false, .bool false] := rfl
      have hr := hG.rowAt 7999 (act_base 7999 rfl) e0
      have c0 : u9.cell? ⟨nd22, 2, none⟩ = some (.slice (some ⟨nd24, 0, none⟩) 3 3) := hr.cell rfl
      clear hr e0
      go_simp
      exact hK _ α _ (fun _ _ => rfl) rfl (step_same (st9) hL hcl rfl rfl hG)
    · intro L9 α a9 u9 K9 hL hcl hA hG hS h0 hK
      replace hL : L9 15 = false := hL
      have q88 : a9.tmps[88]? = some (.slice (some ⟨nd24, 0, none⟩) 3 3) := hS 14 88 (by decide) rfl (by show 88 < 178; decide)
      have s88 := Rega.eval_of q88
      have q84 : a9.tmps[84]? = some (.bool false) := hS 10 84 (by decide) rfl (by show 84 < 178; decide)
      have s84 := Rega.eval_of q84
      go_simp
      exact hK _ α _ (fun _ _ => rfl) rfl (step_same (st9) hL hcl rfl rfl hG)
    · intro L9 α a9 u9 K9 hL hcl hA hG hS h0 hK
      replace hL : L9 16 = false := hL
      have q89 : a9.tmps[89]? = some (.pointer (some ⟨nd24, 0, none⟩)) := hS 15 89 (by decide) rfl (by show 89 < 178; decide)
      have s89 := Rega.eval_of q89
      have q84 : a9.tmps[84]? = some (.bool false) := hS 10 84 (by decide) rfl (by show 84 < 178; decide)
      have s84 := Rega.eval_of q84
      have e0 : rLri6R loc kl nd8 nd15 nd22 nd23 nd24 nd25 nd26 nd27 nd31 nd32 nd33 nd34 nd35 nd36 L9 α 8999 = row (nd24) 30 #[.iface 40 (.pointer (some ⟨nd27, 0, none⟩)), .int .i32 loc, .iface 220 (.pointer (some ⟨nd26, 0, none⟩)), .int .i32 loc, .iface 50 (.pointer (some ⟨nd8, 0, none⟩)), .int .i32 kl] := rfl
      have hr := hG.rowAt 8999 (act_base 8999 rfl) e0
      have c0 : u9.cell? ⟨nd24, 0, none⟩ = some (.iface 40 (.pointer (some ⟨nd27, 0, none⟩))) := hr.cell rfl
      have c1 : u9.cell? ⟨nd24, 1, none⟩ = some (.int .i32 loc) := hr.cell rfl
      clear hr e0
      go_simp
      exact hK _ α _ (fun _ _ => rfl) rfl (step_same (st9) hL hcl rfl rfl hG)
    · intro L9 α a9 u9 K9 hL hcl hA hG hS h0 hK
      replace hL : L9 17 = false := hL
      have q17 : a9.tmps[17]? = some (.pointer (some ⟨nd31, 0, none⟩)) := (h0 17 (by kernel_rfl)).trans rfl
      have s17 := Rega.eval_of q17
      have q84 : a9.tmps[84]? = some (.bool false) := hS 10 84 (by decide) rfl (by show 84 < 178; decide)
      have s84 := Rega.eval_of q84
      go_simp
      exact hK _ α _ (fun _ _ => rfl) rfl (step_same (st9) hL hcl rfl rfl hG)
    · intro L9 α a9 u9 K9 hL hcl hA hG hS h0 hK
      replace hL : L9 18 = false := hL
      have q91 : a9.tmps[91]? = some (.pointer (some ⟨nd31, 0, none⟩)) := hS 17 91 (by decide) rfl (by show 91 < 178; decide)
      have s91 := Rega.eval_of q91
      have q84 : a9.tmps[84]? = some (.bool false) := hS 10 84 (by decide) rfl (by show 84 < 178; decide)
      have s84 := Rega.eval_of q84
      go_simp
      exact hK _ α _ (fun _ _ => rfl) rfl (step_same (st9) hL hcl rfl rfl hG)
    · intro L9 α a9 u9 K9 hL hcl hA hG hS h0 hK
      replace hL : L9 19 = false := hL
      have q92 : a9.tmps[92]? = some (.pointer (some ⟨nd31, 0, none⟩)) := hS 18 92 (by decide) rfl (by show 92 < 178; decide)
      have s92 := Rega.eval_of q92
      have q84 : a9.tmps[84]? = some (.bool false) := hS 10 84 (by decide) rfl (by show 84 < 178; decide)
      have s84 := Rega.eval_of q84
      go_simp
      exact hK _ α _ (fun _ _ => rfl) rfl (step_same (st9) hL hcl rfl rfl hG)
    · intro L9 α a9 u9 K9 hL hcl hA hG hS h0 hK
      replace hL : L9 20 = false := hL
      have q93 : a9.tmps[93]? = some (.pointer (some ⟨nd31, 2, none⟩)) := hS 19 93 (by decide) rfl (by show 93 < 178; decide)
      have s93 := Rega.eval_of q93
      have q84 : a9.tmps[84]? = some (.bool false) := hS 10 84 (by decide) rfl (by show 84 < 178; decide)
      have s84 := Rega.eval_of q84
      have e0 : rLri6R loc kl nd8 nd15 nd22 nd23 nd24 nd25 nd26 nd27 nd31 nd32 nd33 nd34 nd35 nd36 L9 α 1999 = row (nd31) 56 #[.iface 220 (.pointer (some ⟨nd32, 0, none⟩)), .int .i32 loc, .slice (some ⟨nd33, 0, none⟩) 3 3, .int .i32 0, .int .u8 0, .int .u8 0, .bool false, .bool false] := rfl
      have hr := hG.rowAt 1999 (act_base 1999 rfl) e0
      have c0 : u9.cell? ⟨nd31, 2, none⟩ = some (.slice (some ⟨nd33, 0, none⟩) 3 3) := hr.cell rfl
      clear hr e0
      go_simp
      exact hK _ α _ (fun _ _ => rfl) rfl (step_same (st9) hL hcl rfl rfl hG)
    · intro L9 α a9 u9 K9 hL hcl hA hG hS h0 hK
      replace hL : L9 21 = false := hL
      have q94 : a9.tmps[94]? = some (.slice (some ⟨nd33, 0, none⟩) 3 3) := hS 20 94 (by decide) rfl (by show 94 < 178; decide)
      have s94 := Rega.eval_of q94
      have q84 : a9.tmps[84]? = some (.bool false) := hS 10 84 (by decide) rfl (by show 84 < 178; decide)
      have s84 := Rega.eval_of q84
      go_simp
      exact hK _ α _ (fun _ _ => rfl) rfl (step_same (st9) hL hcl rfl rfl hG)
    · intro L9 α a9 u9 K9 hL hcl hA hG hS h0 hK
      replace hL : L9 22 = false := hL
      have q95 : a9.tmps[95]? = some (.pointer (some ⟨nd33, 0, none⟩)) := hS 21 95 (by decide) rfl (by show 95 < 178; decide)
      have s95 := Rega.eval_of q95
      have q84 : a9.tmps[84]? = some (.bool false) := hS 10 84 (by decide) rfl (by show 84 < 178; decide)
      have s84 := Rega.eval_of q84
      have e0 : rLri6R loc kl nd8 nd15 nd22 nd23 nd24 nd25 nd26 nd27 nd31 nd32 nd33 nd34 nd35 nd36 L9 α 2999 = row (nd33) 30 #[.iface 40 (.pointer (some ⟨nd36, 0, none⟩)), .int .i32 loc, .iface 220 (.pointer (some ⟨nd35, 0, none⟩)), .int .i32 loc, .iface 50 (.pointer (some ⟨nd15, 0, none⟩)), .int .i32 kl] := rfl
      have hr := hG.rowAt 2999 (act_base 2999 rfl) e0
      have c0 : u9.cell? ⟨nd33, 0, none⟩ = some (.iface 40 (.pointer (some ⟨nd36, 0, none⟩))) := hr.cell rfl
      have c1 : u9.cell? ⟨nd33, 1, none⟩ = some (.int .i32 loc) := hr.cell rfl
      clear hr e0
      go_simp
      exact hK _ α _ (fun _ _ => rfl) rfl (step_same (st9) hL hcl rfl rfl hG)
    · intro L9 α a9 u9 K9 hL hcl hA hG hS h0 hK
      replace hL : L9 23 = false := hL
      have q90 : a9.tmps[90]? = some (.agg #[.iface 40 (.pointer (some ⟨nd27, 0, none⟩)), .int .i32 loc]) := hS 16 90 (by decide) rfl (by show 90 < 178; decide)
      have s90 := Rega.eval_of q90
      have q96 : a9.tmps[96]? = some (.agg #[.iface 40 (.pointer (some ⟨nd36, 0, none⟩)), .int .i32 loc]) := hS 22 96 (by decide) rfl (by show 96 < 178; decide)
      have s96 := Rega.eval_of q96
      have q84 : a9.tmps[84]? = some (.bool false) := hS 10 84 (by decide) rfl (by show 84 < 178; decide)
      have s84 := Rega.eval_of q84
      go_simp
      have e0 : rLri6R loc kl nd8 nd15 nd22 nd23 nd24 nd25 nd26 nd27 nd31 nd32 nd33 nd34 nd35 nd36 L9 α 11999 = row (nd27) 44 #[.iface 220 (.pointer (some ⟨nd25, 0, none⟩)), .int .i32 loc, .string ⟨#[112, 114, 111, 116, 111, 116, 121, 112, 101]⟩, .int .i32 loc, .int .u8 0, .bool false, .bool false, .bool false] := rfl
      have e1 : rLri6R loc kl nd8 nd15 nd22 nd23 nd24 nd25 nd26 nd27 nd31 nd32 nd33 nd34 nd35 nd36 L9 α 5999 = row (nd36) 44 #[.iface 220 (.pointer (some ⟨nd34, 0, none⟩)), .int .i32 loc, .string ⟨#[112, 114, 111, 116, 111, 116, 121, 112, 101]⟩, .int .i32 loc, .int .u8 0, .bool false, .bool false, .bool false] := rfl
      have e2 : rLri6R loc kl nd8 nd15 nd22 nd23 nd24 nd25 nd26 nd27 nd31 nd32 nd33 nd34 nd35 nd36 L9 α 9999 = row (nd25) 223 #[.int .u32 0, .int .u32 1, .bool false, .bool false, .bool false] := rfl
      have e3 : rLri6R loc kl nd8 nd15 nd22 nd23 nd24 nd25 nd26 nd27 nd31 nd32 nd33 nd34 nd35 nd36 L9 α 3999 = row (nd34) 223 #[.int .u32 0, .int .u32 1, .bool false, .bool false, .bool false] := rfl
      have hM : ∀ i, i ∈ [11999, 5999, 9999, 3999] → act rLri6Cnt 12 L9 i := by
        intro i hi
        simp only [List.mem_cons, List.not_mem_nil, or_false] at hi
        rcases hi with rfl | rfl | rfl | rfl
        · exact act_base 11999 rfl
        · exact act_base 5999 rfl
        · exact act_base 9999 rfl
        · exact act_base 3999 rfl
      have hP : Own w0 u9 [row (nd27) 44 #[.iface 220 (.pointer (some ⟨nd25, 0, none⟩)), .int .i32 loc, .string ⟨#[112, 114, 111, 116, 111, 116, 121, 112, 101]⟩, .int .i32 loc, .int .u8 0, .bool false, .bool false, .bool false], row (nd36) 44 #[.iface 220 (.pointer (some ⟨nd34, 0, none⟩)), .int .i32 loc, .string ⟨#[112, 114, 111, 116, 111, 116, 121, 112, 101]⟩, .int .i32 loc, .int .u8 0, .bool false, .bool false, .bool false], row (nd25) 223 #[.int .u32 0, .int .u32 1, .bool false, .bool false, .bool false], row (nd34) 223 #[.int .u32 0, .int .u32 1, .bool false, .bool false, .bool false]] _ := (hG.pick [11999, 5999, 9999, 3999] (by decide) hM).conv (by
        show [rLri6R loc kl nd8 nd15 nd22 nd23 nd24 nd25 nd26 nd27 nd31 nd32 nd33 nd34 nd35 nd36 L9 α 11999, rLri6R loc kl nd8 nd15 nd22 nd23 nd24 nd25 nd26 nd27 nd31 nd32 nd33 nd34 nd35 nd36 L9 α 5999, rLri6R loc kl nd8 nd15 nd22 nd23 nd24 nd25 nd26 nd27 nd31 nd32 nd33 nd34 nd35 nd36 L9 α 9999, rLri6R loc kl nd8 nd15 nd22 nd23 nd24 nd25 nd26 nd27 nd31 nd32 nd33 nd34 nd35 nd36 L9 α 3999] = _
        rw [e0, e1, e2, e3])
      clear e0 e1 e2 e3 hM
      refine Calls.mono (shapeD4 nd25 nd34 loc 0 1 nd27 nd36 ⟨#[112, 114, 111, 116, 111, 116, 121, 112, 101]⟩ _ _ _ hP ) ?_
      rintro e9 u1 ⟨rfl, hQ⟩
      obtain ⟨α', hα'⟩ : ∃ α' : Rega.Atoms, α' = α := ⟨_, rfl⟩
      have f0 : rLri6R loc kl nd8 nd15 nd22 nd23 nd24 nd25 nd26 nd27 nd31 nd32 nd33 nd34 nd35 nd36 (Rega.ran L9 23) α' 11999 = row (nd27) 44 #[.iface 220 (.pointer (some ⟨nd25, 0, none⟩)), .int .i32 loc, .string ⟨#[112, 114, 111, 116, 111, 116, 121, 112, 101]⟩, .int .i32 loc, .int .u8 0, .bool false, .bool false, .bool false] := rfl
      have f1 : rLri6R loc kl nd8 nd15 nd22 nd23 nd24 nd25 nd26 nd27 nd31 nd32 nd33 nd34 nd35 nd36 (Rega.ran L9 23) α' 5999 = row (nd36) 44 #[.iface 220 (.pointer (some ⟨nd34, 0, none⟩)), .int .i32 loc, .string ⟨#[112, 114, 111, 116, 111, 116, 121, 112, 101]⟩, .int .i32 loc, .int .u8 0, .bool false, .bool false, .bool false] := rfl
      have f2 : rLri6R loc kl nd8 nd15 nd22 nd23 nd24 nd25 nd26 nd27 nd31 nd32 nd33 nd34 nd35 nd36 (Rega.ran L9 23) α' 9999 = row (nd25) 223 #[.int .u32 0, .int .u32 1, .bool false, .bool false, .bool false] := rfl
      have f3 : rLri6R loc kl nd8 nd15 nd22 nd23 nd24 nd25 nd26 nd27 nd31 nd32 nd33 nd34 nd35 nd36 (Rega.ran L9 23) α' 3999 = row (nd34) 223 #[.int .u32 0, .int .u32 1, .bool false, .bool false, .bool false] := rfl
      have hα : ∀ j, j % 1000 ≠ 23 → α' j = α j := fun j hj => by rw [hα']
      skip
      refine hK _ α' _ hα ?_ (step_call (st9) hL hcl hα [11999, 5999, 9999, 3999] [11999, 5999, 9999, 3999] (by decide) (by decide) (by decide) (M := _) ?_ hG hQ)
      · rfl
      · show [rLri6R loc kl nd8 nd15 nd22 nd23 nd24 nd25 nd26 nd27 nd31 nd32 nd33 nd34 nd35 nd36 (Rega.ran L9 23) α' 11999, rLri6R loc kl nd8 nd15 nd22 nd23 nd24 nd25 nd26 nd27 nd31 nd32 nd33 nd34 nd35 nd36 (Rega.ran L9 23) α' 5999, rLri6R loc kl nd8 nd15 nd22 nd23 nd24 nd25 nd26 nd27 nd31 nd32 nd33 nd34 nd35 nd36 (Rega.ran L9 23) α' 9999, rLri6R loc kl nd8 nd15 nd22 nd23 nd24 nd25 nd26 nd27 nd31 nd32 nd33 nd34 nd35 nd36 (Rega.ran L9 23) α' 3999] = _
        rw [f0, f1, f2, f3]
    · intro L9 α a9 u9 K9 hL hcl hA hG hS h0 hK
      replace hL : L9 24 = false := hL
      have q97 : a9.tmps[97]? = some (.bool true) := hS 23 97 (by decide) rfl (by show 97 < 178; decide)
      have s97 := Rega.eval_of q97
      have q84 : a9.tmps[84]? = some (.bool false) := hS 10 84 (by decide) rfl (by show 84 < 178; decide)
      have s84 := Rega.eval_of q84
      go_simp
      exact hK _ α _ (fun _ _ => rfl) rfl (step_same (st9) hL hcl rfl rfl hG)
    · intro L9 α a9 u9 K9 hL hcl hA hG hS h0 hK
      replace hL : L9 25 = false := hL
      have q84 : a9.tmps[84]? = some (.bool false) := hS 10 84 (by decide) rfl (by show 84 < 178; decide)
      have s84 := Rega.eval_of q84
      have q98 : a9.tmps[98]? = some (.bool false) := hS 24 98 (by decide) rfl (by show 98 < 178; decide)
      have s98 := Rega.eval_of q98
      go_simp
      exact hK _ α _ (fun _ _ => rfl) rfl (step_same (st9) hL hcl rfl rfl hG)
    · intro L9 α a9 u9 K9 hL hcl hA hG hS h0 hK
      replace hL : L9 26 = false := hL
      have q99 : a9.tmps[99]? = some (.bool false) := hS 25 99 (by decide) rfl (by show 99 < 178; decide)
      have s99 := Rega.eval_of q99
      go_simp
      exact hK _ α _ (fun _ _ => rfl) rfl (step_same (st9) hL hcl rfl rfl hG)
    · intro L9 α a9 u9 K9 hL hcl hA hG hS h0 hK
      replace hL : L9 27 = false := hL
      have q16 : a9.tmps[16]? = some (.pointer (some ⟨nd22, 0, none⟩)) := (h0 16 (by kernel_rfl)).trans rfl
      have s16 := Rega.eval_of q16
      have q100 : a9.tmps[100]? = some (.bool false) := hS 26 100 (by decide) rfl (by show 100 < 178; decide)
      have s100 := Rega.eval_of q100
      go_simp
      exact hK _ α _ (fun _ _ => rfl) rfl (step_same (st9) hL hcl rfl rfl hG)
    · intro L9 α a9 u9 K9 hL hcl hA hG hS h0 hK
      replace hL : L9 28 = false := hL
      have q101 : a9.tmps[101]? = some (.pointer (some ⟨nd22, 0, none⟩)) := hS 27 101 (by decide) rfl (by show 101 < 178; decide)
      have s101 := Rega.eval_of q101
      have q100 : a9.tmps[100]? = some (.bool false) := hS 26 100 (by decide) rfl (by show 100 < 178; decide)
      have s100 := Rega.eval_of q100
      go_simp
      exact hK _ α _ (fun _ _ => rfl) rfl (step_same (st9) hL hcl rfl rfl hG)
    · intro L9 α a9 u9 K9 hL hcl hA hG hS h0 hK
      replace hL : L9 29 = false := hL
      have q102 : a9.tmps[102]? = some (.pointer (some ⟨nd22, 0, none⟩)) := hS 28 102 (by decide) rfl (by show 102 < 178; decide)
      have s102 := Rega.eval_of q102
      have q100 : a9.tmps[100]? = some (.bool false) := hS 26 100 (by decide) rfl (by show 100 < 178; decide)
      have s100 := Rega.eval_of q100
      go_simp
      exact hK _ α _ (fun _ _ => rfl) rfl (step_same (st9) hL hcl rfl rfl hG)
    · intro L9 α a9 u9 K9 hL hcl hA hG hS h0 hK
      replace hL : L9 30 = false := hL
      have q103 : a9.tmps[103]? = some (.pointer (some ⟨nd22, 2, none⟩)) := hS 29 103 (by decide) rfl (by show 103 < 178; decide)
      have s103 := Rega.eval_of q103
      have q100 : a9.tmps[100]? = some (.bool false) := hS 26 100 (by decide) rfl (by show 100 < 178; decide)
      have s100 := Rega.eval_of q100
      have e0 : rLri6R loc kl nd8 nd15 nd22 nd23 nd24 nd25 nd26 nd27 nd31 nd32 nd33 nd34 nd35 nd36 L9 α 7999 = row (nd22) 56 #[.iface 220 (.pointer (some ⟨nd23, 0, none⟩)), .int .i32 loc, .slice (some ⟨nd24, 0, none⟩) 3 3, .int .i32 0, .int .u8 0, .int .u8 0, .bool false, .bool false] := rfl
      have hr := hG.rowAt 7999 (act_base 7999 rfl) e0
      have c0 : u9.cell? ⟨nd22, 2, none⟩ = some (.slice (some ⟨nd24, 0, none⟩) 3 3) := hr.cell rfl
      clear hr e0
      go_simp
      exact hK _ α _ (fun _ _ => rfl) rfl (step_same (st9) hL hcl rfl rfl hG)
    · intro L9 α a9 u9 K9 hL hcl hA hG hS h0 hK
      replace hL : L9 31 = false := hL
      have q104 : a9.tmps[104]? = some (.slice (some ⟨nd24, 0, none⟩) 3 3) := hS 30 104 (by decide) rfl (by show 104 < 178; decide)
      have s104 := Rega.eval_of q104
      have q100 : a9.tmps[100]? = some (.bool false) := hS 26 100 (by decide) rfl (by show 100 < 178; decide)
      have s100 := Rega.eval_of q100
      go_simp
      exact hK _ α _ (fun _ _ => rfl) rfl (step_same (st9) hL hcl rfl rfl hG)
    · intro L9 α a9 u9 K9 hL hcl hA hG hS h0 hK
      replace hL : L9 32 = false := hL
      have q105 : a9.tmps[105]? = some (.pointer (some ⟨nd24, 2, none⟩)) := hS 31 105 (by decide) rfl (by show 105 < 178; decide)
      have s105 := Rega.eval_of q105
      have q100 : a9.tmps[100]? = some (.bool false) := hS 26 100 (by decide) rfl (by show 100 < 178; decide)
      have s100 := Rega.eval_of q100
      have e0 : rLri6R loc kl nd8 nd15 nd22 nd23 nd24 nd25 nd26 nd27 nd31 nd32 nd33 nd34 nd35 nd36 L9 α 8999 = row (nd24) 30 #[.iface 40 (.pointer (some ⟨nd27, 0, none⟩)), .int .i32 loc, .iface 220 (.pointer (some ⟨nd26, 0, none⟩)), .int .i32 loc, .iface 50 (.pointer (some ⟨nd8, 0, none⟩)), .int .i32 kl] := rfl
      have hr := hG.rowAt 8999 (act_base 8999 rfl) e0
      have c0 : u9.cell? ⟨nd24, 2, none⟩ = some (.iface 220 (.pointer (some ⟨nd26, 0, none⟩))) := hr.cell rfl
      have c1 : u9.cell? ⟨nd24, 3, none⟩ = some (.int .i32 loc) := hr.cell rfl
      clear hr e0
      go_simp
      exact hK _ α _ (fun _ _ => rfl) rfl (step_same (st9) hL hcl rfl rfl hG)
    · intro L9 α a9 u9 K9 hL hcl hA hG hS h0 hK
      replace hL : L9 33 = false := hL
      have q17 : a9.tmps[17]? = some (.pointer (some ⟨nd31, 0, none⟩)) := (h0 17 (by kernel_rfl)).trans rfl
      have s17 := Rega.eval_of q17
      have q100 : a9.tmps[100]? = some (.bool false) := hS 26 100 (by decide) rfl (by show 100 < 178; decide)
      have s100 := Rega.eval_of q100
      go_simp
      exact hK _ α _ (fun _ _ => rfl) rfl (step_same (st9) hL hcl rfl rfl hG)
    · intro L9 α a9 u9 K9 hL hcl hA hG hS h0 hK
      replace hL : L9 34 = false := hL
      have q107 : a9.tmps[107]? = some (.pointer (some ⟨nd31, 0, none⟩)) := hS 33 107 (by decide) rfl (by show 107 < 178; decide)
      have s107 := Rega.eval_of q107
      have q100 : a9.tmps[100]? = some (.bool false) := hS 26 100 (by decide) rfl (by show 100 < 178; decide)
      have s100 := Rega.eval_of q100
      go_simp
      exact hK _ α _ (fun _ _ => rfl) rfl (step_same (st9) hL hcl rfl rfl hG)
    · intro L9 α a9 u9 K9 hL hcl hA hG hS h0 hK
      replace hL : L9 35 = false := hL
      have q108 : a9.tmps[108]? = some (.pointer (some ⟨nd31, 0, none⟩)) := hS 34 108 (by decide) rfl (by show 108 < 178; decide)
      have s108 := Rega.eval_of q108
      have q100 : a9.tmps[100]? = some (.bool false) := hS 26 100 (by decide) rfl (by show 100 < 178; decide)
      have s100 := Rega.eval_of q100
      go_simp
      exact hK _ α _ (fun _ _ => rfl) rfl (step_same (st9) hL hcl rfl rfl hG)
    · intro L9 α a9 u9 K9 hL hcl hA hG hS h0 hK
      replace hL : L9 36 = false := hL
      have q109 : a9.tmps[109]? = some (.pointer (some ⟨nd31, 2, none⟩)) := hS 35 109 (by decide) rfl (by show 109 < 178; decide)
      have s109 := Rega.eval_of q109
      have q100 : a9.tmps[100]? = some (.bool false) := hS 26 100 (by decide) rfl (by show 100 < 178; decide)
      have s100 := Rega.eval_of q100
      have e0 : rLri6R loc kl nd8 nd15 nd22 nd23 nd24 nd25 nd26 nd27 nd31 nd32 nd33 nd34 nd35 nd36 L9 α 1999 = row (nd31) 56 #[.iface 220 (.pointer (some ⟨nd32, 0, none⟩)), .int .i32 loc, .slice (some ⟨nd33, 0, none⟩) 3 3, .int .i32 0, .int .u8 0, .int .u8 0, .bool false, .bool false] := rfl
      have hr := hG.rowAt 1999 (act_base 1999 rfl) e0
      have c0 : u9.cell? ⟨nd31, 2, none⟩ = some (.slice (some ⟨nd33, 0, none⟩) 3 3) := hr.cell rfl
      clear hr e0
      go_simp
      exact hK _ α _ (fun _ _ => rfl) rfl (step_same (st9) hL hcl rfl rfl hG)
    · intro L9 α a9 u9 K9 hL hcl hA hG hS h0 hK
      replace hL : L9 37 = false := hL
      have q110 : a9.tmps[110]? = some (.slice (some ⟨nd33, 0, none⟩) 3 3) := hS 36 110 (by decide) rfl (by show 110 < 178; decide)
      have s110 := Rega.eval_of q110
      have q100 : a9.tmps[100]? = some (.bool false) := hS 26 100 (by decide) rfl (by show 100 < 178; decide)
      have s100 := Rega.eval_of q100
      go_simp
      exact hK _ α _ (fun _ _ => rfl) rfl (step_same (st9) hL hcl rfl rfl hG)
    · intro L9 α a9 u9 K9 hL hcl hA hG hS h0 hK
      replace hL : L9 38 = false := hL
      have q111 : a9.tmps[111]? = some (.pointer (some ⟨nd33, 2, none⟩)) := hS 37 111 (by decide) rfl (by show 111 < 178; decide)
      have s111 := Rega.eval_of q111
      have q100 : a9.tmps[100]? = some (.bool false) := hS 26 100 (by decide) rfl (by show 100 < 178; decide)
      have s100 := Rega.eval_of q100
      have e0 : rLri6R loc kl nd8 nd15 nd22 nd23 nd24 nd25 nd26 nd27 nd31 nd32 nd33 nd34 nd35 nd36 L9 α 2999 = row (nd33) 30 #[.iface 40 (.pointer (some ⟨nd36, 0, none⟩)), .int .i32 loc, .iface 220 (.pointer (some ⟨nd35, 0, none⟩)), .int .i32 loc, .iface 50 (.pointer (some ⟨nd15, 0, none⟩)), .int .i32 kl] := rfl
      have hr := hG.rowAt 2999 (act_base 2999 rfl) e0
      have c0 : u9.cell? ⟨nd33, 2, none⟩ = some (.iface 220 (.pointer (some ⟨nd35, 0, none⟩))) := hr.cell rfl
      have c1 : u9.cell? ⟨nd33, 3, none⟩ = some (.int .i32 loc) := hr.cell rfl
      clear hr e0
      go_simp
      exact hK _ α _ (fun _ _ => rfl) rfl (step_same (st9) hL hcl rfl rfl hG)
    · intro L9 α a9 u9 K9 hL hcl hA hG hS h0 hK
      replace hL : L9 39 = false := hL
      have q106 : a9.tmps[106]? = some (.agg #[.iface 220 (.pointer (some ⟨nd26, 0, none⟩)), .int .i32 loc]) := hS 32 106 (by decide) rfl (by show 106 < 178; decide)
      have s106 := Rega.eval_of q106
      have q112 : a9.tmps[112]? = some (.agg #[.iface 220 (.pointer (some ⟨nd35, 0, none⟩)), .int .i32 loc]) := hS 38 112 (by decide) rfl (by show 112 < 178; decide)
      have s112 := Rega.eval_of q112
      have q100 : a9.tmps[100]? = some (.bool false) := hS 26 100 (by decide) rfl (by show 100 < 178; decide)
      have s100 := Rega.eval_of q100
      go_simp
      have e0 : rLri6R loc kl nd8 nd15 nd22 nd23 nd24 nd25 nd26 nd27 nd31 nd32 nd33 nd34 nd35 nd36 L9 α 10999 = row (nd26) 223 #[.int .u32 0, .int .u32 1, .bool false, .bool false, .bool false] := rfl
      have e1 : rLri6R loc kl nd8 nd15 nd22 nd23 nd24 nd25 nd26 nd27 nd31 nd32 nd33 nd34 nd35 nd36 L9 α 4999 = row (nd35) 223 #[.int .u32 0, .int .u32 1, .bool false, .bool false, .bool false] := rfl
      have hM : ∀ i, i ∈ [10999, 4999] → act rLri6Cnt 12 L9 i := by
        intro i hi
        simp only [List.mem_cons, List.not_mem_nil, or_false] at hi
        rcases hi with rfl | rfl
        · exact act_base 10999 rfl
        · exact act_base 4999 rfl
      have hP : Own w0 u9 [row (nd26) 223 #[.int .u32 0, .int .u32 1, .bool false, .bool false, .bool false], row (nd35) 223 #[.int .u32 0, .int .u32 1, .bool false, .bool false, .bool false]] _ := (hG.pick [10999, 4999] (by decide) hM).conv (by
        show [rLri6R loc kl nd8 nd15 nd22 nd23 nd24 nd25 nd26 nd27 nd31 nd32 nd33 nd34 nd35 nd36 L9 α 10999, rLri6R loc kl nd8 nd15 nd22 nd23 nd24 nd25 nd26 nd27 nd31 nd32 nd33 nd34 nd35 nd36 L9 α 4999] = _
        rw [e0, e1])
      clear e0 e1 hM
      refine Calls.mono (shapeI4 nd26 nd35 loc 0 1 _ _ _ hP ) ?_
      rintro e9 u1 ⟨rfl, hQ⟩
      obtain ⟨α', hα'⟩ : ∃ α' : Rega.Atoms, α' = α := ⟨_, rfl⟩
      have f0 : rLri6R loc kl nd8 nd15 nd22 nd23 nd24 nd25 nd26 nd27 nd31 nd32 nd33 nd34 nd35 nd36 (Rega.ran L9 39) α' 10999 = row (nd26) 223 #[.int .u32 0, .int .u32 1, .bool false, .bool false, .bool false] := rfl
      have f1 : rLri6R loc kl nd8 nd15 nd22 nd23 nd24 nd25 nd26 nd27 nd31 nd32 nd33 nd34 nd35 nd36 (Rega.ran L9 39) α' 4999 = row (nd35) 223 #[.int .u32 0, .int .u32 1, .bool false, .bool false, .bool false] := rfl
      have hα : ∀ j, j % 1000 ≠ 39 → α' j = α j := fun j hj => by rw [hα']
      skip
      refine hK _ α' _ hα ?_ (step_call (st9) hL hcl hα [10999, 4999] [10999, 4999] (by decide) (by decide) (by decide) (M := _) ?_ hG hQ)
      · rfl
      · show [rLri6R loc kl nd8 nd15 nd22 nd23 nd24 nd25 nd26 nd27 nd31 nd32 nd33 nd34 nd35 nd36 (Rega.ran L9 39) α' 10999, rLri6R loc kl nd8 nd15 nd22 nd23 nd24 nd25 nd26 nd27 nd31 nd32 nd33 nd34 nd35 nd36 (Rega.ran L9 39) α' 4999] = _
        rw [f0, f1]
    · intro L9 α a9 u9 K9 hL hcl hA hG hS h0 hK
      replace hL : L9 40 = false := hL
      have q113 : a9.tmps[113]? = some (.bool true) := hS 39 113 (by decide) rfl (by show 113 < 178; decide)
      have s113 := Rega.eval_of q113
      have q100 : a9.tmps[100]? = some (.bool false) := hS 26 100 (by decide) rfl (by show 100 < 178; decide)
      have s100 := Rega.eval_of q100
      go_simp
      exact hK _ α _ (fun _ _ => rfl) rfl (step_same (st9) hL hcl rfl rfl hG)
    · intro L9 α a9 u9 K9 hL hcl hA hG hS h0 hK
      replace hL : L9 41 = false := hL
      have q100 : a9.tmps[100]? = some (.bool false) := hS 26 100 (by decide) rfl (by show 100 < 178; decide)
      have s100 := Rega.eval_of q100
      have q114 : a9.tmps[114]? = some (.bool false) := hS 40 114 (by decide) rfl (by show 114 < 178; decide)
      have s114 := Rega.eval_of q114
      go_simp
      exact hK _ α _ (fun _ _ => rfl) rfl (step_same (st9) hL hcl rfl rfl hG)
  · clear st9
    intro α u hG
    have e0 : rLri6R loc kl nd8 nd15 nd22 nd23 nd24 nd25 nd26 nd27 nd31 nd32 nd33 nd34 nd35 nd36 (fun k => decide (k < 42)) α 999 = row (nd32) 223 #[.int .u32 0, .int .u32 3, .bool false, .bool false, .bool false] := rfl
    have e1 : rLri6R loc kl nd8 nd15 nd22 nd23 nd24 nd25 nd26 nd27 nd31 nd32 nd33 nd34 nd35 nd36 (fun k => decide (k < 42)) α 1999 = row (nd31) 56 #[.iface 220 (.pointer (some ⟨nd32, 0, none⟩)), .int .i32 loc, .slice (some ⟨nd33, 0, none⟩) 3 3, .int .i32 0, .int .u8 0, .int .u8 0, .bool false, .bool false] := rfl
    have e2 : rLri6R loc kl nd8 nd15 nd22 nd23 nd24 nd25 nd26 nd27 nd31 nd32 nd33 nd34 nd35 nd36 (fun k => decide (k < 42)) α 2999 = row (nd33) 30 #[.iface 40 (.pointer (some ⟨nd36, 0, none⟩)), .int .i32 loc, .iface 220 (.pointer (some ⟨nd35, 0, none⟩)), .int .i32 loc, .iface 50 (.pointer (some ⟨nd15, 0, none⟩)), .int .i32 kl] := rfl
    have e3 : rLri6R loc kl nd8 nd15 nd22 nd23 nd24 nd25 nd26 nd27 nd31 nd32 nd33 nd34 nd35 nd36 (fun k => decide (k < 42)) α 3999 = row (nd34) 223 #[.int .u32 0, .int .u32 1, .bool false, .bool false, .bool false] := rfl
    have e4 : rLri6R loc kl nd8 nd15 nd22 nd23 nd24 nd25 nd26 nd27 nd31 nd32 nd33 nd34 nd35 nd36 (fun k => decide (k < 42)) α 4999 = row (nd35) 223 #[.int .u32 0, .int .u32 1, .bool false, .bool false, .bool false] := rfl
    have e5 : rLri6R loc kl nd8 nd15 nd22 nd23 nd24 nd25 nd26 nd27 nd31 nd32 nd33 nd34 nd35 nd36 (fun k => decide (k < 42)) α 5999 = row (nd36) 44 #[.iface 220 (.pointer (some ⟨nd34, 0, none⟩)), .int .i32 loc, .string ⟨#[112, 114, 111, 116, 111, 116, 121, 112, 101]⟩, .int .i32 loc, .int .u8 0, .bool false, .bool false, .bool false] := rfl
    have e6 : rLri6R loc kl nd8 nd15 nd22 nd23 nd24 nd25 nd26 nd27 nd31 nd32 nd33 nd34 nd35 nd36 (fun k => decide (k < 42)) α 6999 = row (nd23) 223 #[.int .u32 0, .int .u32 3, .bool false, .bool false, .bool false] := rfl
    have e7 : rLri6R loc kl nd8 nd15 nd22 nd23 nd24 nd25 nd26 nd27 nd31 nd32 nd33 nd34 nd35 nd36 (fun k => decide (k < 42)) α 7999 = row (nd22) 56 #[.iface 220 (.pointer (some ⟨nd23, 0, none⟩)), .int .i32 loc, .slice (some ⟨nd24, 0, none⟩) 3 3, .int .i32 0, .int .u8 0, .int .u8 0, .bool false, .bool false] := rfl
    have e8 : rLri6R loc kl nd8 nd15 nd22 nd23 nd24 nd25 nd26 nd27 nd31 nd32 nd33 nd34 nd35 nd36 (fun k => decide (k < 42)) α 8999 = row (nd24) 30 #[.iface 40 (.pointer (some ⟨nd27, 0, none⟩)), .int .i32 loc, .iface 220 (.pointer (some ⟨nd26, 0, none⟩)), .int .i32 loc, .iface 50 (.pointer (some ⟨nd8, 0, none⟩)), .int .i32 kl] := rfl
    have e9 : rLri6R loc kl nd8 nd15 nd22 nd23 nd24 nd25 nd26 nd27 nd31 nd32 nd33 nd34 nd35 nd36 (fun k => decide (k < 42)) α 9999 = row (nd25) 223 #[.int .u32 0, .int .u32 1, .bool false, .bool false, .bool false] := rfl
    have e10 : rLri6R loc kl nd8 nd15 nd22 nd23 nd24 nd25 nd26 nd27 nd31 nd32 nd33 nd34 nd35 nd36 (fun k => decide (k < 42)) α 10999 = row (nd26) 223 #[.int .u32 0, .int .u32 1, .bool false, .bool false, .bool false] := rfl
    have e11 : rLri6R loc kl nd8 nd15 nd22 nd23 nd24 nd25 nd26 nd27 nd31 nd32 nd33 nd34 nd35 nd36 (fun k => decide (k < 42)) α 11999 = row (nd27) 44 #[.iface 220 (.pointer (some ⟨nd25, 0, none⟩)), .int .i32 loc, .string ⟨#[112, 114, 111, 116, 111, 116, 121, 112, 101]⟩, .int .i32 loc, .int .u8 0, .bool false, .bool false, .bool false] := rfl
    have hO : Own w0 u [row (nd32) 223 #[.int .u32 0, .int .u32 3, .bool false, .bool false, .bool false], row (nd31) 56 #[.iface 220 (.pointer (some ⟨nd32, 0, none⟩)), .int .i32 loc, .slice (some ⟨nd33, 0, none⟩) 3 3, .int .i32 0, .int .u8 0, .int .u8 0, .bool false, .bool false], row (nd33) 30 #[.iface 40 (.pointer (some ⟨nd36, 0, none⟩)), .int .i32 loc, .iface 220 (.pointer (some ⟨nd35, 0, none⟩)), .int .i32 loc, .iface 50 (.pointer (some ⟨nd15, 0, none⟩)), .int .i32 kl], row (nd34) 223 #[.int .u32 0, .int .u32 1, .bool false, .bool false, .bool false], row (nd35) 223 #[.int .u32 0, .int .u32 1, .bool false, .bool false, .bool false], row (nd36) 44 #[.iface 220 (.pointer (some ⟨nd34, 0, none⟩)), .int .i32 loc, .string ⟨#[112, 114, 111, 116, 111, 116, 121, 112, 101]⟩, .int .i32 loc, .int .u8 0, .bool false, .bool false, .bool false], row (nd23) 223 #[.int .u32 0, .int .u32 3, .bool false, .bool false, .bool false], row (nd22) 56 #[.iface 220 (.pointer (some ⟨nd23, 0, none⟩)), .int .i32 loc, .slice (some ⟨nd24, 0, none⟩) 3 3, .int .i32 0, .int .u8 0, .int .u8 0, .bool false, .bool false], row (nd24) 30 #[.iface 40 (.pointer (some ⟨nd27, 0, none⟩)), .int .i32 loc, .iface 220 (.pointer (some ⟨nd26, 0, none⟩)), .int .i32 loc, .iface 50 (.pointer (some ⟨nd8, 0, none⟩)), .int .i32 kl], row (nd25) 223 #[.int .u32 0, .int .u32 1, .bool false, .bool false, .bool false], row (nd26) 223 #[.int .u32 0, .int .u32 1, .bool false, .bool false, .bool false], row (nd27) 44 #[.iface 220 (.pointer (some ⟨nd25, 0, none⟩)), .int .i32 loc, .string ⟨#[112, 114, 111, 116, 111, 116, 121, 112, 101]⟩, .int .i32 loc, .int .u8 0, .bool false, .bool false, .bool false]] X9_39 := (hG.list [999, 1999, 2999, 3999, 4999, 5999, 6999, 7999, 8999, 9999, 10999, 11999] (by decide) (act_all (by decide))).conv (by
      show [rLri6R loc kl nd8 nd15 nd22 nd23 nd24 nd25 nd26 nd27 nd31 nd32 nd33 nd34 nd35 nd36 (fun k => decide (k < 42)) α 999, rLri6R loc kl nd8 nd15 nd22 nd23 nd24 nd25 nd26 nd27 nd31 nd32 nd33 nd34 nd35 nd36 (fun k => decide (k < 42)) α 1999, rLri6R loc kl nd8 nd15 nd22 nd23 nd24 nd25 nd26 nd27 nd31 nd32 nd33 nd34 nd35 nd36 (fun k => decide (k < 42)) α 2999, rLri6R loc kl nd8 nd15 nd22 nd23 nd24 nd25 nd26 nd27 nd31 nd32 nd33 nd34 nd35 nd36 (fun k => decide (k < 42)) α 3999, rLri6R loc kl nd8 nd15 nd22 nd23 nd24 nd25 nd26 nd27 nd31 nd32 nd33 nd34 nd35 nd36 (fun k => decide (k < 42)) α 4999, rLri6R loc kl nd8 nd15 nd22 nd23 nd24 nd25 nd26 nd27 nd31 nd32 nd33 nd34 nd35 nd36 (fun k => decide (k < 42)) α 5999, rLri6R loc kl nd8 nd15 nd22 nd23 nd24 nd25 nd26 nd27 nd31 nd32 nd33 nd34 nd35 nd36 (fun k => decide (k < 42)) α 6999, rLri6R loc kl nd8 nd15 nd22 nd23 nd24 nd25 nd26 nd27 nd31 nd32 nd33 nd34 nd35 nd36 (fun k => decide (k < 42)) α 7999, rLri6R loc kl nd8 nd15 nd22 nd23 nd24 nd25 nd26 nd27 nd31 nd32 nd33 nd34 nd35 nd36 (fun k => decide (k < 42)) α 8999, rLri6R loc kl nd8 nd15 nd22 nd23 nd24 nd25 nd26 nd27 nd31 nd32 nd33 nd34 nd35 nd36 (fun k => decide (k < 42)) α 9999, rLri6R loc kl nd8 nd15 nd22 nd23 nd24 nd25 nd26 nd27 nd31 nd32 nd33 nd34 nd35 nd36 (fun k => decide (k < 42)) α 10999, rLri6R loc kl nd8 nd15 nd22 nd23 nd24 nd25 nd26 nd27 nd31 nd32 nd33 nd34 nd35 nd36 (fun k => decide (k < 42)) α 11999] = _
      rw [e0, e1, e2, e3, e4, e5, e6, e7, e8, e9, e10, e11])
    clear hG e0 e1 e2 e3 e4 e5 e6 e7 e8 e9 e10 e11
    generalize hfr : Rega.frameAt _ _ _ _ _ = fr
    have hdf : fr = ⟨#[.bool true, .bool false, .int .i32 loc, .int .i32 kl, .string nm, undef, undef, undef, undef, undef, .bool false, .pointer (some ⟨nd2, 0, none⟩), .pointer (some ⟨B12, 0, none⟩), .pointer (some ⟨B19, 0, none⟩), .pointer (some ⟨B28, 0, none⟩), .pointer (some ⟨B37, 0, none⟩), .pointer (some ⟨nd22, 0, none⟩), .pointer (some ⟨nd31, 0, none⟩), .bool true, .bool false, .int .i32 loc, .int .i32 kl, .string nm, .bool true, .bool false, .string nm, .int .i64 (nm.size : Int), .bool (decide (65536 < (nm.size : Int))), .bool true, .bool false, .pointer (some ⟨nd2, 0, none⟩), .int .i32 kl, .string nm, .agg #[.iface 50 (.pointer (some ⟨nd8, 0, none⟩)), .int .i32 kl], .int .i32 kl, .string nm, .agg #[.iface 50 (.pointer (some ⟨nd15, 0, none⟩)), .int .i32 kl], .pointer (some ⟨nd2, 0, none⟩), .int .i32 loc, .agg #[.iface 50 (.pointer (some ⟨nd8, 0, none⟩)), .int .i32 kl], .agg #[.iface 52 (.pointer (some ⟨nd22, 0, none⟩)), .int .i32 loc], .pointer (some ⟨nd2, 0, none⟩), .int .i32 loc, .agg #[.iface 50 (.pointer (some ⟨nd15, 0, none⟩)), .int .i32 kl], .agg #[.iface 52 (.pointer (some ⟨nd31, 0, none⟩)), .int .i32 loc], .agg #[.iface 52 (.pointer (some ⟨nd22, 0, none⟩)), .int .i32 loc], .pointer (some ⟨nd22, 0, none⟩), .agg #[.iface 52 (.pointer (some ⟨nd31, 0, none⟩)), .int .i32 loc], .pointer (some ⟨nd31, 0, none⟩), .pointer (some ⟨nd22, 0, none⟩), .bool false, .bool false, .pointer (some ⟨nd31, 0, none⟩), .bool false, .bool false, .bool false, .pointer (some ⟨nd22, 0, none⟩), .pointer (some ⟨nd31, 0, none⟩), .bool false, .bool false, .pointer (some ⟨nd22, 0, none⟩), .pointer (some ⟨nd22, 0, none⟩), .pointer (some ⟨nd22, 2, none⟩), .slice (some ⟨nd24, 0, none⟩) 3 3, .int .i64 3, .bool false, .bool false, .pointer (some ⟨nd31, 0, none⟩), .pointer (some ⟨nd31, 0, none⟩), .pointer (some ⟨nd31, 2, none⟩), .slice (some ⟨nd33, 0, none⟩) 3 3, .int .i64 3, .bool false, .bool false, .pointer (some ⟨nd22, 0, none⟩), .pointer (some ⟨nd22, 0, none⟩), .pointer (some ⟨nd22, 0, none⟩), .agg #[.iface 220 (.pointer (some ⟨nd23, 0, none⟩)), .int .i32 loc], .pointer (some ⟨nd31, 0, none⟩), .pointer (some ⟨nd31, 0, none⟩), .pointer (some ⟨nd31, 0, none⟩), .agg #[.iface 220 (.pointer (some ⟨nd32, 0, none⟩)), .int .i32 loc], .bool true, .bool false, .bool false, .pointer (some ⟨nd22, 0, none⟩), .pointer (some ⟨nd22, 0, none⟩), .pointer (some ⟨nd22, 2, none⟩), .slice (some ⟨nd24, 0, none⟩) 3 3, .pointer (some ⟨nd24, 0, none⟩), .agg #[.iface 40 (.pointer (some ⟨nd27, 0, none⟩)), .int .i32 loc], .pointer (some ⟨nd31, 0, none⟩), .pointer (some ⟨nd31, 0, none⟩), .pointer (some ⟨nd31, 2, none⟩), .slice (some ⟨nd33, 0, none⟩) 3 3, .pointer (some ⟨nd33, 0, none⟩), .agg #[.iface 40 (.pointer (some ⟨nd36, 0, none⟩)), .int .i32 loc], .bool true, .bool false, .bool false, .bool false, .pointer (some ⟨nd22, 0, none⟩), .pointer (some ⟨nd22, 0, none⟩), .pointer (some ⟨nd22, 2, none⟩), .slice (some ⟨nd24, 0, none⟩) 3 3, .pointer (some ⟨nd24, 2, none⟩), .agg #[.iface 220 (.pointer (some ⟨nd26, 0, none⟩)), .int .i32 loc], .pointer (some ⟨nd31, 0, none⟩), .pointer (some ⟨nd31, 0, none⟩), .pointer (some ⟨nd31, 2, none⟩), .slice (some ⟨nd33, 0, none⟩) 3 3, .pointer (some ⟨nd33, 2, none⟩), .agg #[.iface 220 (.pointer (some ⟨nd35, 0, none⟩)), .int .i32 loc], .bool true, .bool false, .bool false, undef, undef, undef, undef, undef, undef, undef, undef, undef, undef, undef, undef, undef, undef, undef, undef, undef, undef, undef, undef, undef, undef, undef, undef, undef, undef, undef, undef, undef, undef, undef, undef, undef, undef, undef, undef, undef, undef, undef, undef, undef, undef, undef, undef, undef, undef, undef, undef, undef, undef, undef, undef, undef, undef, undef, undef, undef, undef, undef, undef, undef, undef], []⟩ := by rw [← hfr]; kernel_rfl
    clear hfr
    subst hdf
    clear α
    subst hX9_39
    have hN : Own w0 u [row (nd32) 223 #[.int .u32 0, .int .u32 3, .bool false, .bool false, .bool false], row (nd31) 56 #[.iface 220 (.pointer (some ⟨nd32, 0, none⟩)), .int .i32 loc, .slice (some ⟨nd33, 0, none⟩) 3 3, .int .i32 0, .int .u8 0, .int .u8 0, .bool false, .bool false], row (nd33) 30 #[.iface 40 (.pointer (some ⟨nd36, 0, none⟩)), .int .i32 loc, .iface 220 (.pointer (some ⟨nd35, 0, none⟩)), .int .i32 loc, .iface 50 (.pointer (some ⟨nd15, 0, none⟩)), .int .i32 kl], row (nd34) 223 #[.int .u32 0, .int .u32 1, .bool false, .bool false, .bool false], row (nd35) 223 #[.int .u32 0, .int .u32 1, .bool false, .bool false, .bool false], row (nd36) 44 #[.iface 220 (.pointer (some ⟨nd34, 0, none⟩)), .int .i32 loc, .string ⟨#[112, 114, 111, 116, 111, 116, 121, 112, 101]⟩, .int .i32 loc, .int .u8 0, .bool false, .bool false, .bool false], row (nd23) 223 #[.int .u32 0, .int .u32 3, .bool false, .bool false, .bool false], row (nd22) 56 #[.iface 220 (.pointer (some ⟨nd23, 0, none⟩)), .int .i32 loc, .slice (some ⟨nd24, 0, none⟩) 3 3, .int .i32 0, .int .u8 0, .int .u8 0, .bool false, .bool false], row (nd24) 30 #[.iface 40 (.pointer (some ⟨nd27, 0, none⟩)), .int .i32 loc, .iface 220 (.pointer (some ⟨nd26, 0, none⟩)), .int .i32 loc, .iface 50 (.pointer (some ⟨nd8, 0, none⟩)), .int .i32 kl], row (nd25) 223 #[.int .u32 0, .int .u32 1, .bool false, .bool false, .bool false], row (nd26) 223 #[.int .u32 0, .int .u32 1, .bool false, .bool false, .bool false], row (nd27) 44 #[.iface 220 (.pointer (some ⟨nd25, 0, none⟩)), .int .i32 loc, .string ⟨#[112, 114, 111, 116, 111, 116, 121, 112, 101]⟩, .int .i32 loc, .int .u8 0, .bool false, .bool false, .bool false], row (B37_2) 30 #[.iface 52 (.pointer (some ⟨nd31, 0, none⟩)), .int .i32 loc], row (B37_1) 30 #[.iface 52 (.pointer (some ⟨nd22, 0, none⟩)), .int .i32 loc], row (B37) 30 #[.iface 52 (.pointer (some ⟨nd31, 0, none⟩)), .int .i32 loc], row (B28) 30 #[.iface 52 (.pointer (some ⟨nd22, 0, none⟩)), .int .i32 loc], row (B19) 30 #[.iface 50 (.pointer (some ⟨nd15, 0, none⟩)), .int .i32 kl], row (nd15) 214 #[.slice (some ⟨nd16, 0, none⟩) nd17 nd18, .int .i32 0, .bool false, .bool false, .bool false], row (B12) 30 #[.iface 50 (.pointer (some ⟨nd8, 0, none⟩)), .int .i32 kl], row (nd8) 214 #[.slice (some ⟨nd9, 0, none⟩) nd10 nd11, .int .i32 0, .bool false, .bool false, .bool false]] X := hO.back HL.out HX.out [0, 1, 2, 9, 16, 17, 18, 19] (by decide) (by decide)
    clear hO HL HX
    have hO := hN
    clear hN
    have hN : Own w0 u [row (nd32) 223 #[.int .u32 0, .int .u32 3, .bool false, .bool false, .bool false], row (nd31) 56 #[.iface 220 (.pointer (some ⟨nd32, 0, none⟩)), .int .i32 loc, .slice (some ⟨nd33, 0, none⟩) 3 3, .int .i32 0, .int .u8 0, .int .u8 0, .bool false, .bool false], row (nd33) 30 #[.iface 40 (.pointer (some ⟨nd36, 0, none⟩)), .int .i32 loc, .iface 220 (.pointer (some ⟨nd35, 0, none⟩)), .int .i32 loc, .iface 50 (.pointer (some ⟨nd15, 0, none⟩)), .int .i32 kl], row (nd34) 223 #[.int .u32 0, .int .u32 1, .bool false, .bool false, .bool false], row (nd35) 223 #[.int .u32 0, .int .u32 1, .bool false, .bool false, .bool false], row (nd36) 44 #[.iface 220 (.pointer (some ⟨nd34, 0, none⟩)), .int .i32 loc, .string ⟨#[112, 114, 111, 116, 111, 116, 121, 112, 101]⟩, .int .i32 loc, .int .u8 0, .bool false, .bool false, .bool false], row (nd23) 223 #[.int .u32 0, .int .u32 3, .bool false, .bool false, .bool false], row (nd22) 56 #[.iface 220 (.pointer (some ⟨nd23, 0, none⟩)), .int .i32 loc, .slice (some ⟨nd24, 0, none⟩) 3 3, .int .i32 0, .int .u8 0, .int .u8 0, .bool false, .bool false], row (nd24) 30 #[.iface 40 (.pointer (some ⟨nd27, 0, none⟩)), .int .i32 loc, .iface 220 (.pointer (some ⟨nd26, 0, none⟩)), .int .i32 loc, .iface 50 (.pointer (some ⟨nd8, 0, none⟩)), .int .i32 kl], row (nd25) 223 #[.int .u32 0, .int .u32 1, .bool false, .bool false, .bool false], row (nd26) 223 #[.int .u32 0, .int .u32 1, .bool false, .bool false, .bool false], row (nd27) 44 #[.iface 220 (.pointer (some ⟨nd25, 0, none⟩)), .int .i32 loc, .string ⟨#[112, 114, 111, 116, 111, 116, 121, 112, 101]⟩, .int .i32 loc, .int .u8 0, .bool false, .bool false, .bool false], row (B37) 30 #[.iface 52 (.pointer (some ⟨nd31, 0, none⟩)), .int .i32 loc], row (B28) 30 #[.iface 52 (.pointer (some ⟨nd22, 0, none⟩)), .int .i32 loc], row (B19) 30 #[.iface 50 (.pointer (some ⟨nd15, 0, none⟩)), .int .i32 kl], row (nd15) 214 #[.slice (some ⟨nd16, 0, none⟩) nd17 nd18, .int .i32 0, .bool false, .bool false, .bool false], row (B12) 30 #[.iface 50 (.pointer (some ⟨nd8, 0, none⟩)), .int .i32 kl], row (nd8) 214 #[.slice (some ⟨nd9, 0, none⟩) nd10 nd11, .int .i32 0, .bool false, .bool false, .bool false]] X := hO.sub [0, 1, 2, 3, 4, 5, 6, 7, 8, 9, 10, 11, 14, 15, 16, 17, 18, 19] (by decide)
    clear hO
    have hO := hN
    clear hN
    have ne9_0_3 : ¬ nd32 = nd34 := hO.ne 0 3 rfl rfl (by decide)
    have ne9_0_4 : ¬ nd32 = nd35 := hO.ne 0 4 rfl rfl (by decide)
    have ne9_0_6 : ¬ nd32 = nd23 := hO.ne 0 6 rfl rfl (by decide)
    have ne9_0_9 : ¬ nd32 = nd25 := hO.ne 0 9 rfl rfl (by decide)
    have ne9_0_10 : ¬ nd32 = nd26 := hO.ne 0 10 rfl rfl (by decide)
    have ne9_1_7 : ¬ nd31 = nd22 := hO.ne 1 7 rfl rfl (by decide)
    have ne9_2_8 : ¬ nd33 = nd24 := hO.ne 2 8 rfl rfl (by decide)
    have ne9_2_12 : ¬ nd33 = B37 := hO.ne 2 12 rfl rfl (by decide)
    have ne9_2_13 : ¬ nd33 = B28 := hO.ne 2 13 rfl rfl (by decide)
    have ne9_2_14 : ¬ nd33 = B19 := hO.ne 2 14 rfl rfl (by decide)
    have ne9_2_16 : ¬ nd33 = B12 := hO.ne 2 16 rfl rfl (by decide)
    have ne9_3_0 : ¬ nd34 = nd32 := hO.ne 3 0 rfl rfl (by decide)
    have ne9_3_4 : ¬ nd34 = nd35 := hO.ne 3 4 rfl rfl (by decide)
    have ne9_3_6 : ¬ nd34 = nd23 := hO.ne 3 6 rfl rfl (by decide)
    have ne9_3_9 : ¬ nd34 = nd25 := hO.ne 3 9 rfl rfl (by decide)
    have ne9_3_10 : ¬ nd34 = nd26 := hO.ne 3 10 rfl rfl (by decide)
    have ne9_4_0 : ¬ nd35 = nd32 := hO.ne 4 0 rfl rfl (by decide)
    have ne9_4_3 : ¬ nd35 = nd34 := hO.ne 4 3 rfl rfl (by decide)
    have ne9_4_6 : ¬ nd35 = nd23 := hO.ne 4 6 rfl rfl (by decide)
    have ne9_4_9 : ¬ nd35 = nd25 := hO.ne 4 9 rfl rfl (by decide)
    have ne9_4_10 : ¬ nd35 = nd26 := hO.ne 4 10 rfl rfl (by decide)
    have ne9_5_11 : ¬ nd36 = nd27 := hO.ne 5 11 rfl rfl (by decide)
    have ne9_6_0 : ¬ nd23 = nd32 := hO.ne 6 0 rfl rfl (by decide)
    have ne9_6_3 : ¬ nd23 = nd34 := hO.ne 6 3 rfl rfl (by decide)
    have ne9_6_4 : ¬ nd23 = nd35 := hO.ne 6 4 rfl rfl (by decide)
    have ne9_6_9 : ¬ nd23 = nd25 := hO.ne 6 9 rfl rfl (by decide)
    have ne9_6_10 : ¬ nd23 = nd26 := hO.ne 6 10 rfl rfl (by decide)
    have ne9_7_1 : ¬ nd22 = nd31 := hO.ne 7 1 rfl rfl (by decide)
    have ne9_8_2 : ¬ nd24 = nd33 := hO.ne 8 2 rfl rfl (by decide)
    have ne9_8_12 : ¬ nd24 = B37 := hO.ne 8 12 rfl rfl (by decide)
    have ne9_8_13 : ¬ nd24 = B28 := hO.ne 8 13 rfl rfl (by decide)
    have ne9_8_14 : ¬ nd24 = B19 := hO.ne 8 14 rfl rfl (by decide)
    have ne9_8_16 : ¬ nd24 = B12 := hO.ne 8 16 rfl rfl (by decide)
    have ne9_9_0 : ¬ nd25 = nd32 := hO.ne 9 0 rfl rfl (by decide)
    have ne9_9_3 : ¬ nd25 = nd34 := hO.ne 9 3 rfl rfl (by decide)
    have ne9_9_4 : ¬ nd25 = nd35 := hO.ne 9 4 rfl rfl (by decide)
    have ne9_9_6 : ¬ nd25 = nd23 := hO.ne 9 6 rfl rfl (by decide)
    have ne9_9_10 : ¬ nd25 = nd26 := hO.ne 9 10 rfl rfl (by decide)
    have ne9_10_0 : ¬ nd26 = nd32 := hO.ne 10 0 rfl rfl (by decide)
    have ne9_10_3 : ¬ nd26 = nd34 := hO.ne 10 3 rfl rfl (by decide)
    have ne9_10_4 : ¬ nd26 = nd35 := hO.ne 10 4 rfl rfl (by decide)
    have ne9_10_6 : ¬ nd26 = nd23 := hO.ne 10 6 rfl rfl (by decide)
    have ne9_10_9 : ¬ nd26 = nd25 := hO.ne 10 9 rfl rfl (by decide)
    have ne9_11_5 : ¬ nd27 = nd36 := hO.ne 11 5 rfl rfl (by decide)
    have ne9_12_2 : ¬ B37 = nd33 := hO.ne 12 2 rfl rfl (by decide)
    have ne9_12_8 : ¬ B37 = nd24 := hO.ne 12 8 rfl rfl (by decide)
    have ne9_12_13 : ¬ B37 = B28 := hO.ne 12 13 rfl rfl (by decide)
    have ne9_12_14 : ¬ B37 = B19 := hO.ne 12 14 rfl rfl (by decide)
    have ne9_12_16 : ¬ B37 = B12 := hO.ne 12 16 rfl rfl (by decide)
    have ne9_13_2 : ¬ B28 = nd33 := hO.ne 13 2 rfl rfl (by decide)
    have ne9_13_8 : ¬ B28 = nd24 := hO.ne 13 8 rfl rfl (by decide)
    have ne9_13_12 : ¬ B28 = B37 := hO.ne 13 12 rfl rfl (by decide)
    have ne9_13_14 : ¬ B28 = B19 := hO.ne 13 14 rfl rfl (by decide)
    have ne9_13_16 : ¬ B28 = B12 := hO.ne 13 16 rfl rfl (by decide)
    have ne9_14_2 : ¬ B19 = nd33 := hO.ne 14 2 rfl rfl (by decide)
    have ne9_14_8 : ¬ B19 = nd24 := hO.ne 14 8 rfl rfl (by decide)
    have ne9_14_12 : ¬ B19 = B37 := hO.ne 14 12 rfl rfl (by decide)
    have ne9_14_13 : ¬ B19 = B28 := hO.ne 14 13 rfl rfl (by decide)
    have ne9_14_16 : ¬ B19 = B12 := hO.ne 14 16 rfl rfl (by decide)
    have ne9_15_17 : ¬ nd15 = nd8 := hO.ne 15 17 rfl rfl (by decide)
    have ne9_16_2 : ¬ B12 = nd33 := hO.ne 16 2 rfl rfl (by decide)
    have ne9_16_8 : ¬ B12 = nd24 := hO.ne 16 8 rfl rfl (by decide)
    have ne9_16_12 : ¬ B12 = B37 := hO.ne 16 12 rfl rfl (by decide)
    have ne9_16_13 : ¬ B12 = B28 := hO.ne 16 13 rfl rfl (by decide)
    have ne9_16_14 : ¬ B12 = B19 := hO.ne 16 14 rfl rfl (by decide)
    have ne9_17_15 : ¬ nd8 = nd15 := hO.ne 17 15 rfl rfl (by decide)
    obtain ⟨c9_0_0, c9_0_1, c9_0_2, c9_0_3, c9_0_4, lt9_0, y9_0, pl9_0⟩ := hO.k5 0 rfl
    obtain ⟨c9_1_0, c9_1_1, c9_1_2, c9_1_3, c9_1_4, c9_1_5, c9_1_6, c9_1_7, lt9_1, y9_1, pl9_1⟩ := hO.k8 1 rfl
    obtain ⟨c9_2_0, c9_2_1, c9_2_2, c9_2_3, c9_2_4, c9_2_5, lt9_2, y9_2, pl9_2⟩ := hO.k6 2 rfl
    obtain ⟨c9_3_0, c9_3_1, c9_3_2, c9_3_3, c9_3_4, lt9_3, y9_3, pl9_3⟩ := hO.k5 3 rfl
    obtain ⟨c9_4_0, c9_4_1, c9_4_2, c9_4_3, c9_4_4, lt9_4, y9_4, pl9_4⟩ := hO.k5 4 rfl
    obtain ⟨c9_5_0, c9_5_1, c9_5_2, c9_5_3, c9_5_4, c9_5_5, c9_5_6, c9_5_7, lt9_5, y9_5, pl9_5⟩ := hO.k8 5 rfl
    obtain ⟨c9_6_0, c9_6_1, c9_6_2, c9_6_3, c9_6_4, lt9_6, y9_6, pl9_6⟩ := hO.k5 6 rfl
    obtain ⟨c9_7_0, c9_7_1, c9_7_2, c9_7_3, c9_7_4, c9_7_5, c9_7_6, c9_7_7, lt9_7, y9_7, pl9_7⟩ := hO.k8 7 rfl
    obtain ⟨c9_8_0, c9_8_1, c9_8_2, c9_8_3, c9_8_4, c9_8_5, lt9_8, y9_8, pl9_8⟩ := hO.k6 8 rfl
    obtain ⟨c9_9_0, c9_9_1, c9_9_2, c9_9_3, c9_9_4, lt9_9, y9_9, pl9_9⟩ := hO.k5 9 rfl
    obtain ⟨c9_10_0, c9_10_1, c9_10_2, c9_10_3, c9_10_4, lt9_10, y9_10, pl9_10⟩ := hO.k5 10 rfl
    obtain ⟨c9_11_0, c9_11_1, c9_11_2, c9_11_3, c9_11_4, c9_11_5, c9_11_6, c9_11_7, lt9_11, y9_11, pl9_11⟩ := hO.k8 11 rfl
    obtain ⟨c9_12_0, c9_12_1, lt9_12, y9_12, pl9_12⟩ := hO.k2 12 rfl
    obtain ⟨c9_13_0, c9_13_1, lt9_13, y9_13, pl9_13⟩ := hO.k2 13 rfl
    obtain ⟨c9_14_0, c9_14_1, lt9_14, y9_14, pl9_14⟩ := hO.k2 14 rfl
    obtain ⟨c9_15_0, c9_15_1, c9_15_2, c9_15_3, c9_15_4, lt9_15, y9_15, pl9_15⟩ := hO.k5 15 rfl
    obtain ⟨c9_16_0, c9_16_1, lt9_16, y9_16, pl9_16⟩ := hO.k2 16 rfl
    obtain ⟨c9_17_0, c9_17_1, c9_17_2, c9_17_3, c9_17_4, lt9_17, y9_17, pl9_17⟩ := hO.k5 17 rfl
    have HO := Lib.hid hO
    clear hO
    go_wp2_with (first | (go_at_call 39; go_in) | (go_at_call 40; go_in) | (go_at_call 18; go_in) | (go_at_call 23; go_in) | (go_at_call 21; go_in) | (go_at_call 41; go_in) | (go_at_call 42; go_in) | (go_at_call 28; go_in) | (go_at_call 43; go_in) | (go_at_call 22; go_in))
    have hO := HO.out
    clear HO ne9_0_3 ne9_0_4 ne9_0_6 ne9_0_9 ne9_0_10 ne9_1_7 ne9_2_8 ne9_2_12 ne9_2_13 ne9_2_14 ne9_2_16 ne9_3_0 ne9_3_4 ne9_3_6 ne9_3_9 ne9_3_10 ne9_4_0 ne9_4_3 ne9_4_6 ne9_4_9 ne9_4_10 ne9_5_11 ne9_6_0 ne9_6_3 ne9_6_4 ne9_6_9 ne9_6_10 ne9_7_1 ne9_8_2 ne9_8_12 ne9_8_13 ne9_8_14 ne9_8_16 ne9_9_0 ne9_9_3 ne9_9_4 ne9_9_6 ne9_9_10 ne9_10_0 ne9_10_3 ne9_10_4 ne9_10_6 ne9_10_9 ne9_11_5 ne9_12_2 ne9_12_8 ne9_12_13 ne9_12_14 ne9_12_16 ne9_13_2 ne9_13_8 ne9_13_12 ne9_13_14 ne9_13_16 ne9_14_2 ne9_14_8 ne9_14_12 ne9_14_13 ne9_14_16 ne9_15_17 ne9_16_2 ne9_16_8 ne9_16_12 ne9_16_13 ne9_16_14 ne9_17_15 c9_0_0 c9_0_1 c9_0_2 c9_0_3 c9_0_4 lt9_0 y9_0 pl9_0 c9_1_0 c9_1_1 c9_1_2 c9_1_3 c9_1_4 c9_1_5 c9_1_6 c9_1_7 lt9_1 y9_1 pl9_1 c9_2_0 c9_2_1 c9_2_2 c9_2_3 c9_2_4 c9_2_5 lt9_2 y9_2 pl9_2 c9_3_0 c9_3_1 c9_3_2 c9_3_3 c9_3_4 lt9_3 y9_3 pl9_3 c9_4_0 c9_4_1 c9_4_2 c9_4_3 c9_4_4 lt9_4 y9_4 pl9_4 c9_5_0 c9_5_1 c9_5_2 c9_5_3 c9_5_4 c9_5_5 c9_5_6 c9_5_7 lt9_5 y9_5 pl9_5 c9_6_0 c9_6_1 c9_6_2 c9_6_3 c9_6_4 lt9_6 y9_6 pl9_6 c9_7_0 c9_7_1 c9_7_2 c9_7_3 c9_7_4 c9_7_5 c9_7_6 c9_7_7 lt9_7 y9_7 pl9_7 c9_8_0 c9_8_1 c9_8_2 c9_8_3 c9_8_4 c9_8_5 lt9_8 y9_8 pl9_8 c9_9_0 c9_9_1 c9_9_2 c9_9_3 c9_9_4 lt9_9 y9_9 pl9_9 c9_10_0 c9_10_1 c9_10_2 c9_10_3 c9_10_4 lt9_10 y9_10 pl9_10 c9_11_0 c9_11_1 c9_11_2 c9_11_3 c9_11_4 c9_11_5 c9_11_6 c9_11_7 lt9_11 y9_11 pl9_11 c9_12_0 c9_12_1 lt9_12 y9_12 pl9_12 c9_13_0 c9_13_1 lt9_13 y9_13 pl9_13 c9_14_0 c9_14_1 lt9_14 y9_14 pl9_14 c9_15_0 c9_15_1 c9_15_2 c9_15_3 c9_15_4 lt9_15 y9_15 pl9_15 c9_16_0 c9_16_1 lt9_16 y9_16 pl9_16 c9_17_0 c9_17_1 c9_17_2 c9_17_3 c9_17_4 lt9_17 y9_17 pl9_17
    have hL := hO.apart
    have hX := hO.apartX
    have HL := Lib.hid hL
    have HX := Lib.hid hX
    clear hL hX
    have hP9 := hO.pick [0, 1, 2, 3, 5, 6, 7, 8, 9, 11] (by decide)
    generalize hX9_40 : Own.Rest _ _ X = X9_40 at hP9
    replace hP9 : Own w0 u [row (nd32) 223 #[.int .u32 0, .int .u32 3, .bool false, .bool false, .bool false], row (nd31) 56 #[.iface 220 (.pointer (some ⟨nd32, 0, none⟩)), .int .i32 loc, .slice (some ⟨nd33, 0, none⟩) 3 3, .int .i32 0, .int .u8 0, .int .u8 0, .bool false, .bool false], row (nd33) 30 #[.iface 40 (.pointer (some ⟨nd36, 0, none⟩)), .int .i32 loc, .iface 220 (.pointer (some ⟨nd35, 0, none⟩)), .int .i32 loc, .iface 50 (.pointer (some ⟨nd15, 0, none⟩)), .int .i32 kl], row (nd34) 223 #[.int .u32 0, .int .u32 1, .bool false, .bool false, .bool false], row (nd36) 44 #[.iface 220 (.pointer (some ⟨nd34, 0, none⟩)), .int .i32 loc, .string ⟨#[112, 114, 111, 116, 111, 116, 121, 112, 101]⟩, .int .i32 loc, .int .u8 0, .bool false, .bool false, .bool false], row (nd23) 223 #[.int .u32 0, .int .u32 3, .bool false, .bool false, .bool false], row (nd22) 56 #[.iface 220 (.pointer (some ⟨nd23, 0, none⟩)), .int .i32 loc, .slice (some ⟨nd24, 0, none⟩) 3 3, .int .i32 0, .int .u8 0, .int .u8 0, .bool false, .bool false], row (nd24) 30 #[.iface 40 (.pointer (some ⟨nd27, 0, none⟩)), .int .i32 loc, .iface 220 (.pointer (some ⟨nd26, 0, none⟩)), .int .i32 loc, .iface 50 (.pointer (some ⟨nd8, 0, none⟩)), .int .i32 kl], row (nd25) 223 #[.int .u32 0, .int .u32 1, .bool false, .bool false, .bool false], row (nd27) 44 #[.iface 220 (.pointer (some ⟨nd25, 0, none⟩)), .int .i32 loc, .string ⟨#[112, 114, 111, 116, 111, 116, 121, 112, 101]⟩, .int .i32 loc, .int .u8 0, .bool false, .bool false, .bool false]] X9_40 := hP9
    clear hO
    have hO := hP9
    clear hP9
    have st9 := rLri7_st loc kl nd8 nd15 nd22 nd23 nd24 nd25 nd26 nd27 nd31 nd32 nd33 nd34 nd35 nd36
    refine wp_region_own (e := rLri7E loc kl nd8 nd15 nd22 nd23 nd24 nd25 nd26 nd27 nd31 nd32 nd33 nd34 nd35 nd36) (anc := rLri7Anc) (G := (fun L9 α u9 => OwnF w0 u9 (act rLri7Cnt 10 L9) (rLri7R loc kl nd8 nd15 nd22 nd23 nd24 nd25 nd26 nd27 nd31 nd32 nd33 nd34 nd35 nd36 L9 α) X9_40)) (by kernel_rfl) (by kernel_rfl) (by kernel_rfl) (by kernel_rfl) (rLri7_he loc kl nd8 nd15 nd22 nd23 nd24 nd25 nd26 nd27 nd31 nd32 nd33 nd34 nd35 nd36) ?_ (RunsAll.all ?_) ?_
    · have hp : ∀ i, act rLri7Cnt 10 (fun _ => false) i → i ∈ [999, 1999, 2999, 3999, 4999, 5999, 6999, 7999, 8999, 9999] := by
        intro i hi
        have h9 : i % 1000 = 999 := by
          by_cases h : i % 1000 = 999
          · exact h
          · exact absurd (act_lt hi h) (by simp)
        unfold act at hi
        rw [if_pos h9] at hi
        simp only [List.mem_cons, List.not_mem_nil, or_false]
        omega
      refine hO.drew.family (fun i hi => ?_) (fun i j hi hj hij => ?_)
      · have := hp i hi
        simp only [List.mem_cons, List.not_mem_nil, or_false] at this
        rcases this with rfl | rfl | rfl | rfl | rfl | rfl | rfl | rfl | rfl | rfl <;> rfl
      · have h1 := hp i hi
        have h2 := hp j hj
        simp only [List.mem_cons, List.not_mem_nil, or_false] at h1 h2
        omega
    · refine ⟨?_, ?_, ?_, ?_, ?_, ?_, ?_, ?_, ?_, ?_, ?_, ?_, ?_, ?_, ?_, ?_, ?_, ?_, ?_, ?_, ?_, ?_, ?_, ?_, trivial⟩
      · intro L9 α a9 u9 K9 hL hcl hA hG hS h0 hK
        replace hL : L9 0 = false := hL
        have q16 : a9.tmps[16]? = some (.pointer (some ⟨nd22, 0, none⟩)) := (h0 16 (by kernel_rfl)).trans rfl
        have s16 := Rega.eval_of q16
        go_simp
        exact hK _ α _ (fun _ _ => rfl) rfl (step_same (st9) hL hcl rfl rfl hG)
      · intro L9 α a9 u9 K9 hL hcl hA hG hS h0 hK
        replace hL : L9 1 = false := hL
        have q116 : a9.tmps[116]? = some (.pointer (some ⟨nd22, 0, none⟩)) := hS 0 116 (by decide) rfl (by show 116 < 178; decide)
        have s116 := Rega.eval_of q116
        go_simp
        exact hK _ α _ (fun _ _ => rfl) rfl (step_same (st9) hL hcl rfl rfl hG)
      · intro L9 α a9 u9 K9 hL hcl hA hG hS h0 hK
        replace hL : L9 2 = false := hL
        have q117 : a9.tmps[117]? = some (.pointer (some ⟨nd22, 0, none⟩)) := hS 1 117 (by decide) rfl (by show 117 < 178; decide)
        have s117 := Rega.eval_of q117
        go_simp
        exact hK _ α _ (fun _ _ => rfl) rfl (step_same (st9) hL hcl rfl rfl hG)
      · intro L9 α a9 u9 K9 hL hcl hA hG hS h0 hK
        replace hL : L9 3 = false := hL
        have q118 : a9.tmps[118]? = some (.pointer (some ⟨nd22, 0, none⟩)) := hS 2 118 (by decide) rfl (by show 118 < 178; decide)
        have s118 := Rega.eval_of q118
        have e0 : rLri7R loc kl nd8 nd15 nd22 nd23 nd24 nd25 nd26 nd27 nd31 nd32 nd33 nd34 nd35 nd36 L9 α 6999 = row (nd22) 56 #[.iface 220 (.pointer (some ⟨nd23, 0, none⟩)), .int .i32 loc, .slice (some ⟨nd24, 0, none⟩) 3 3, .int .i32 0, .int .u8 0, .int .u8 0, .bool false, .bool false] := rfl
        have hr := hG.rowAt 6999 (act_base 6999 rfl) e0
        have c0 : u9.cell? ⟨nd22, 0, none⟩ = some (.iface 220 (.pointer (some ⟨nd23, 0, none⟩))) := hr.cell rfl
        have c1 : u9.cell? ⟨nd22, 1, none⟩ = some (.int .i32 loc) := hr.cell rfl
        clear hr e0
        go_simp
        exact hK _ α _ (fun _ _ => rfl) rfl (step_same (st9) hL hcl rfl rfl hG)
      · intro L9 α a9 u9 K9 hL hcl hA hG hS h0 hK
        replace hL : L9 4 = false := hL
        have q17 : a9.tmps[17]? = some (.pointer (some ⟨nd31, 0, none⟩)) := (h0 17 (by kernel_rfl)).trans rfl
        have s17 := Rega.eval_of q17
        go_simp
        exact hK _ α _ (fun _ _ => rfl) rfl (step_same (st9) hL hcl rfl rfl hG)
      · intro L9 α a9 u9 K9 hL hcl hA hG hS h0 hK
        replace hL : L9 5 = false := hL
        have q120 : a9.tmps[120]? = some (.pointer (some ⟨nd31, 0, none⟩)) := hS 4 120 (by decide) rfl (by show 120 < 178; decide)
        have s120 := Rega.eval_of q120
        go_simp
        exact hK _ α _ (fun _ _ => rfl) rfl (step_same (st9) hL hcl rfl rfl hG)
      · intro L9 α a9 u9 K9 hL hcl hA hG hS h0 hK
        replace hL : L9 6 = false := hL
        have q121 : a9.tmps[121]? = some (.pointer (some ⟨nd31, 0, none⟩)) := hS 5 121 (by decide) rfl (by show 121 < 178; decide)
        have s121 := Rega.eval_of q121
        go_simp
        exact hK _ α _ (fun _ _ => rfl) rfl (step_same (st9) hL hcl rfl rfl hG)
      · intro L9 α a9 u9 K9 hL hcl hA hG hS h0 hK
        replace hL : L9 7 = false := hL
        have q122 : a9.tmps[122]? = some (.pointer (some ⟨nd31, 0, none⟩)) := hS 6 122 (by decide) rfl (by show 122 < 178; decide)
        have s122 := Rega.eval_of q122
        have e0 : rLri7R loc kl nd8 nd15 nd22 nd23 nd24 nd25 nd26 nd27 nd31 nd32 nd33 nd34 nd35 nd36 L9 α 1999 = row (nd31) 56 #[.iface 220 (.pointer (some ⟨nd32, 0, none⟩)), .int .i32 loc, .slice (some ⟨nd33, 0, none⟩) 3 3, .int .i32 0, .int .u8 0, .int .u8 0, .bool false, .bool false] := rfl
        have hr := hG.rowAt 1999 (act_base 1999 rfl) e0
        have c0 : u9.cell? ⟨nd31, 0, none⟩ = some (.iface 220 (.pointer (some ⟨nd32, 0, none⟩))) := hr.cell rfl
        have c1 : u9.cell? ⟨nd31, 1, none⟩ = some (.int .i32 loc) := hr.cell rfl
        clear hr e0
        go_simp
        exact hK _ α _ (fun _ _ => rfl) rfl (step_same (st9) hL hcl rfl rfl hG)
      · intro L9 α a9 u9 K9 hL hcl hA hG hS h0 hK
        replace hL : L9 8 = false := hL
        have q119 : a9.tmps[119]? = some (.agg #[.iface 220 (.pointer (some ⟨nd23, 0, none⟩)), .int .i32 loc]) := hS 3 119 (by decide) rfl (by show 119 < 178; decide)
        have s119 := Rega.eval_of q119
        have q123 : a9.tmps[123]? = some (.agg #[.iface 220 (.pointer (some ⟨nd32, 0, none⟩)), .int .i32 loc]) := hS 7 123 (by decide) rfl (by show 123 < 178; decide)
        have s123 := Rega.eval_of q123
        go_simp
        have e0 : rLri7R loc kl nd8 nd15 nd22 nd23 nd24 nd25 nd26 nd27 nd31 nd32 nd33 nd34 nd35 nd36 L9 α 5999 = row (nd23) 223 #[.int .u32 0, .int .u32 3, .bool false, .bool false, .bool false] := rfl
        have e1 : rLri7R loc kl nd8 nd15 nd22 nd23 nd24 nd25 nd26 nd27 nd31 nd32 nd33 nd34 nd35 nd36 L9 α 999 = row (nd32) 223 #[.int .u32 0, .int .u32 3, .bool false, .bool false, .bool false] := rfl
        have hM : ∀ i, i ∈ [5999, 999] → act rLri7Cnt 10 L9 i := by
          intro i hi
          simp only [List.mem_cons, List.not_mem_nil, or_false] at hi
          rcases hi with rfl | rfl
          · exact act_base 5999 rfl
          · exact act_base 999 rfl
        have hP : Own w0 u9 [row (nd23) 223 #[.int .u32 0, .int .u32 3, .bool false, .bool false, .bool false], row (nd32) 223 #[.int .u32 0, .int .u32 3, .bool false, .bool false, .bool false]] _ := (hG.pick [5999, 999] (by decide) hM).conv (by
          show [rLri7R loc kl nd8 nd15 nd22 nd23 nd24 nd25 nd26 nd27 nd31 nd32 nd33 nd34 nd35 nd36 L9 α 5999, rLri7R loc kl nd8 nd15 nd22 nd23 nd24 nd25 nd26 nd27 nd31 nd32 nd33 nd34 nd35 nd36 L9 α 999] = _
          rw [e0, e1])
        clear e0 e1 hM
        refine Calls.mono (nodeI nd23 nd32 loc 0 3 _ _ _ hP ) ?_
        rintro e9 u1 ⟨rfl, hQ⟩
        obtain ⟨α', hα'⟩ : ∃ α' : Rega.Atoms, α' = α := ⟨_, rfl⟩
        have f0 : rLri7R loc kl nd8 nd15 nd22 nd23 nd24 nd25 nd26 nd27 nd31 nd32 nd33 nd34 nd35 nd36 (Rega.ran L9 8) α' 5999 = row (nd23) 223 #[.int .u32 0, .int .u32 3, .bool false, .bool false, .bool false] := rfl
        have f1 : rLri7R loc kl nd8 nd15 nd22 nd23 nd24 nd25 nd26 nd27 nd31 nd32 nd33 nd34 nd35 nd36 (Rega.ran L9 8) α' 999 = row (nd32) 223 #[.int .u32 0, .int .u32 3, .bool false, .bool false, .bool false] := rfl
        have hα : ∀ j, j % 1000 ≠ 8 → α' j = α j := fun j hj => by rw [hα']
        skip
        refine hK _ α' _ hα ?_ (step_call (st9) hL hcl hα [5999, 999] [5999, 999] (by decide) (by decide) (by decide) (M := _) ?_ hG hQ)
        · rfl
        · show [rLri7R loc kl nd8 nd15 nd22 nd23 nd24 nd25 nd26 nd27 nd31 nd32 nd33 nd34 nd35 nd36 (Rega.ran L9 8) α' 5999, rLri7R loc kl nd8 nd15 nd22 nd23 nd24 nd25 nd26 nd27 nd31 nd32 nd33 nd34 nd35 nd36 (Rega.ran L9 8) α' 999] = _
          rw [f0, f1]
      · intro L9 α a9 u9 K9 hL hcl hA hG hS h0 hK
        replace hL : L9 9 = false := hL
        have q124 : a9.tmps[124]? = some (.bool false) := hS 8 124 (by decide) rfl (by show 124 < 178; decide)
        have s124 := Rega.eval_of q124
        go_simp
        exact hK _ α _ (fun _ _ => rfl) rfl (step_same (st9) hL hcl rfl rfl hG)
      · intro L9 α a9 u9 K9 hL hcl hA hG hS h0 hK
        replace hL : L9 10 = false := hL
        have q16 : a9.tmps[16]? = some (.pointer (some ⟨nd22, 0, none⟩)) := (h0 16 (by kernel_rfl)).trans rfl
        have s16 := Rega.eval_of q16
        have q125 : a9.tmps[125]? = some (.bool false) := hS 9 125 (by decide) rfl (by show 125 < 178; decide)
        have s125 := Rega.eval_of q125
        go_simp
        exact hK _ α _ (fun _ _ => rfl) rfl (step_same (st9) hL hcl rfl rfl hG)
      · intro L9 α a9 u9 K9 hL hcl hA hG hS h0 hK
        replace hL : L9 11 = false := hL
        have q126 : a9.tmps[126]? = some (.pointer (some ⟨nd22, 0, none⟩)) := hS 10 126 (by decide) rfl (by show 126 < 178; decide)
        have s126 := Rega.eval_of q126
        have q125 : a9.tmps[125]? = some (.bool false) := hS 9 125 (by decide) rfl (by show 125 < 178; decide)
        have s125 := Rega.eval_of q125
        go_simp
        exact hK _ α _ (fun _ _ => rfl) rfl (step_same (st9) hL hcl rfl rfl hG)
      · intro L9 α a9 u9 K9 hL hcl hA hG hS h0 hK
        replace hL : L9 12 = false := hL
        have q127 : a9.tmps[127]? = some (.pointer (some ⟨nd22, 0, none⟩)) := hS 11 127 (by decide) rfl (by show 127 < 178; decide)
        have s127 := Rega.eval_of q127
        have q125 : a9.tmps[125]? = some (.bool false) := hS 9 125 (by decide) rfl (by show 125 < 178; decide)
        have s125 := Rega.eval_of q125
        go_simp
        exact hK _ α _ (fun _ _ => rfl) rfl (step_same (st9) hL hcl rfl rfl hG)
      · intro L9 α a9 u9 K9 hL hcl hA hG hS h0 hK
        replace hL : L9 13 = false := hL
        have q128 : a9.tmps[128]? = some (.pointer (some ⟨nd22, 2, none⟩)) := hS 12 128 (by decide) rfl (by show 128 < 178; decide)
        have s128 := Rega.eval_of q128
        have q125 : a9.tmps[125]? = some (.bool false) := hS 9 125 (by decide) rfl (by show 125 < 178; decide)
        have s125 := Rega.eval_of q125
        have e0 : rLri7R loc kl nd8 nd15 nd22 nd23 nd24 nd25 nd26 nd27 nd31 nd32 nd33 nd34 nd35 nd36 L9 α 6999 = row (nd22) 56 #[.iface 220 (.pointer (some ⟨nd23, 0, none⟩)), .int .i32 loc, .slice (some ⟨nd24, 0, none⟩) 3 3, .int .i32 0, .int .u8 0, .int .u8 0, .bool false, .bool false] := rfl
        have hr := hG.rowAt 6999 (act_base 6999 rfl) e0
        have c0 : u9.cell? ⟨nd22, 2, none⟩ = some (.slice (some ⟨nd24, 0, none⟩) 3 3) := hr.cell rfl
        clear hr e0
        go_simp
        exact hK _ α _ (fun _ _ => rfl) rfl (step_same (st9) hL hcl rfl rfl hG)
      · intro L9 α a9 u9 K9 hL hcl hA hG hS h0 hK
        replace hL : L9 14 = false := hL
        have q129 : a9.tmps[129]? = some (.slice (some ⟨nd24, 0, none⟩) 3 3) := hS 13 129 (by decide) rfl (by show 129 < 178; decide)
        have s129 := Rega.eval_of q129
        have q125 : a9.tmps[125]? = some (.bool false) := hS 9 125 (by decide) rfl (by show 125 < 178; decide)
        have s125 := Rega.eval_of q125
        go_simp
        exact hK _ α _ (fun _ _ => rfl) rfl (step_same (st9) hL hcl rfl rfl hG)
      · intro L9 α a9 u9 K9 hL hcl hA hG hS h0 hK
        replace hL : L9 15 = false := hL
        have q130 : a9.tmps[130]? = some (.pointer (some ⟨nd24, 0, none⟩)) := hS 14 130 (by decide) rfl (by show 130 < 178; decide)
        have s130 := Rega.eval_of q130
        have q125 : a9.tmps[125]? = some (.bool false) := hS 9 125 (by decide) rfl (by show 125 < 178; decide)
        have s125 := Rega.eval_of q125
        have e0 : rLri7R loc kl nd8 nd15 nd22 nd23 nd24 nd25 nd26 nd27 nd31 nd32 nd33 nd34 nd35 nd36 L9 α 7999 = row (nd24) 30 #[.iface 40 (.pointer (some ⟨nd27, 0, none⟩)), .int .i32 loc, .iface 220 (.pointer (some ⟨nd26, 0, none⟩)), .int .i32 loc, .iface 50 (.pointer (some ⟨nd8, 0, none⟩)), .int .i32 kl] := rfl
        have hr := hG.rowAt 7999 (act_base 7999 rfl) e0
        have c0 : u9.cell? ⟨nd24, 0, none⟩ = some (.iface 40 (.pointer (some ⟨nd27, 0, none⟩))) := hr.cell rfl
        have c1 : u9.cell? ⟨nd24, 1, none⟩ = some (.int .i32 loc) := hr.cell rfl
        clear hr e0
        go_simp
        exact hK _ α _ (fun _ _ => rfl) rfl (step_same (st9) hL hcl rfl rfl hG)
      · intro L9 α a9 u9 K9 hL hcl hA hG hS h0 hK
        replace hL : L9 16 = false := hL
        have q17 : a9.tmps[17]? = some (.pointer (some ⟨nd31, 0, none⟩)) := (h0 17 (by kernel_rfl)).trans rfl
        have s17 := Rega.eval_of q17
        have q125 : a9.tmps[125]? = some (.bool false) := hS 9 125 (by decide) rfl (by show 125 < 178; decide)
        have s125 := Rega.eval_of q125
        go_simp
        exact hK _ α _ (fun _ _ => rfl) rfl (step_same (st9) hL hcl rfl rfl hG)
      · intro L9 α a9 u9 K9 hL hcl hA hG hS h0 hK
        replace hL : L9 17 = false := hL
        have q132 : a9.tmps[132]? = some (.pointer (some ⟨nd31, 0, none⟩)) := hS 16 132 (by decide) rfl (by show 132 < 178; decide)
        have s132 := Rega.eval_of q132
        have q125 : a9.tmps[125]? = some (.bool false) := hS 9 125 (by decide) rfl (by show 125 < 178; decide)
        have s125 := Rega.eval_of q125
        go_simp
        exact hK _ α _ (fun _ _ => rfl) rfl (step_same (st9) hL hcl rfl rfl hG)
      · intro L9 α a9 u9 K9 hL hcl hA hG hS h0 hK
        replace hL : L9 18 = false := hL
        have q133 : a9.tmps[133]? = some (.pointer (some ⟨nd31, 0, none⟩)) := hS 17 133 (by decide) rfl (by show 133 < 178; decide)
        have s133 := Rega.eval_of q133
        have q125 : a9.tmps[125]? = some (.bool false) := hS 9 125 (by decide) rfl (by show 125 < 178; decide)
        have s125 := Rega.eval_of q125
        go_simp
        exact hK _ α _ (fun _ _ => rfl) rfl (step_same (st9) hL hcl rfl rfl hG)
      · intro L9 α a9 u9 K9 hL hcl hA hG hS h0 hK
        replace hL : L9 19 = false := hL
        have q134 : a9.tmps[134]? = some (.pointer (some ⟨nd31, 2, none⟩)) := hS 18 134 (by decide) rfl (by show 134 < 178; decide)
        have s134 := Rega.eval_of q134
        have q125 : a9.tmps[125]? = some (.bool false) := hS 9 125 (by decide) rfl (by show 125 < 178; decide)
        have s125 := Rega.eval_of q125
        have e0 : rLri7R loc kl nd8 nd15 nd22 nd23 nd24 nd25 nd26 nd27 nd31 nd32 nd33 nd34 nd35 nd36 L9 α 1999 = row (nd31) 56 #[.iface 220 (.pointer (some ⟨nd32, 0, none⟩)), .int .i32 loc, .slice (some ⟨nd33, 0, none⟩) 3 3, .int .i32 0, .int .u8 0, .int .u8 0, .bool false, .bool false] := rfl
        have hr := hG.rowAt 1999 (act_base 1999 rfl) e0
        have c0 : u9.cell? ⟨nd31, 2, none⟩ = some (.slice (some ⟨nd33, 0, none⟩) 3 3) := hr.cell rfl
        clear hr e0
        go_simp
        exact hK _ α _ (fun _ _ => rfl) rfl (step_same (st9) hL hcl rfl rfl hG)
      · intro L9 α a9 u9 K9 hL hcl hA hG hS h0 hK
        replace hL : L9 20 = false := hL
        have q135 : a9.tmps[135]? = some (.slice (some ⟨nd33, 0, none⟩) 3 3) := hS 19 135 (by decide) rfl (by show 135 < 178; decide)
        have s135 := Rega.eval_of q135
        have q125 : a9.tmps[125]? = some (.bool false) := hS 9 125 (by decide) rfl (by show 125 < 178; decide)
        have s125 := Rega.eval_of q125
        go_simp
        exact hK _ α _ (fun _ _ => rfl) rfl (step_same (st9) hL hcl rfl rfl hG)
      · intro L9 α a9 u9 K9 hL hcl hA hG hS h0 hK
        replace hL : L9 21 = false := hL
        have q136 : a9.tmps[136]? = some (.pointer (some ⟨nd33, 0, none⟩)) := hS 20 136 (by decide) rfl (by show 136 < 178; decide)
        have s136 := Rega.eval_of q136
        have q125 : a9.tmps[125]? = some (.bool false) := hS 9 125 (by decide) rfl (by show 125 < 178; decide)
        have s125 := Rega.eval_of q125
        have e0 : rLri7R loc kl nd8 nd15 nd22 nd23 nd24 nd25 nd26 nd27 nd31 nd32 nd33 nd34 nd35 nd36 L9 α 2999 = row (nd33) 30 #[.iface 40 (.pointer (some ⟨nd36, 0, none⟩)), .int .i32 loc, .iface 220 (.pointer (some ⟨nd35, 0, none⟩)), .int .i32 loc, .iface 50 (.pointer (some ⟨nd15, 0, none⟩)), .int .i32 kl] := rfl
        have hr := hG.rowAt 2999 (act_base 2999 rfl) e0
        have c0 : u9.cell? ⟨nd33, 0, none⟩ = some (.iface 40 (.pointer (some ⟨nd36, 0, none⟩))) := hr.cell rfl
        have c1 : u9.cell? ⟨nd33, 1, none⟩ = some (.int .i32 loc) := hr.cell rfl
        clear hr e0
        go_simp
        exact hK _ α _ (fun _ _ => rfl) rfl (step_same (st9) hL hcl rfl rfl hG)
      · intro L9 α a9 u9 K9 hL hcl hA hG hS h0 hK
        replace hL : L9 22 = false := hL
        have q131 : a9.tmps[131]? = some (.agg #[.iface 40 (.pointer (some ⟨nd27, 0, none⟩)), .int .i32 loc]) := hS 15 131 (by decide) rfl (by show 131 < 178; decide)
        have s131 := Rega.eval_of q131
        have q137 : a9.tmps[137]? = some (.agg #[.iface 40 (.pointer (some ⟨nd36, 0, none⟩)), .int .i32 loc]) := hS 21 137 (by decide) rfl (by show 137 < 178; decide)
        have s137 := Rega.eval_of q137
        have q125 : a9.tmps[125]? = some (.bool false) := hS 9 125 (by decide) rfl (by show 125 < 178; decide)
        have s125 := Rega.eval_of q125
        go_simp
        have e0 : rLri7R loc kl nd8 nd15 nd22 nd23 nd24 nd25 nd26 nd27 nd31 nd32 nd33 nd34 nd35 nd36 L9 α 9999 = row (nd27) 44 #[.iface 220 (.pointer (some ⟨nd25, 0, none⟩)), .int .i32 loc, .string ⟨#[112, 114, 111, 116, 111, 116, 121, 112, 101]⟩, .int .i32 loc, .int .u8 0, .bool false, .bool false, .bool false] := rfl
        have e1 : rLri7R loc kl nd8 nd15 nd22 nd23 nd24 nd25 nd26 nd27 nd31 nd32 nd33 nd34 nd35 nd36 L9 α 4999 = row (nd36) 44 #[.iface 220 (.pointer (some ⟨nd34, 0, none⟩)), .int .i32 loc, .string ⟨#[112, 114, 111, 116, 111, 116, 121, 112, 101]⟩, .int .i32 loc, .int .u8 0, .bool false, .bool false, .bool false] := rfl
        have e2 : rLri7R loc kl nd8 nd15 nd22 nd23 nd24 nd25 nd26 nd27 nd31 nd32 nd33 nd34 nd35 nd36 L9 α 8999 = row (nd25) 223 #[.int .u32 0, .int .u32 1, .bool false, .bool false, .bool false] := rfl
        have e3 : rLri7R loc kl nd8 nd15 nd22 nd23 nd24 nd25 nd26 nd27 nd31 nd32 nd33 nd34 nd35 nd36 L9 α 3999 = row (nd34) 223 #[.int .u32 0, .int .u32 1, .bool false, .bool false, .bool false] := rfl
        have hM : ∀ i, i ∈ [9999, 4999, 8999, 3999] → act rLri7Cnt 10 L9 i := by
          intro i hi
          simp only [List.mem_cons, List.not_mem_nil, or_false] at hi
          rcases hi with rfl | rfl | rfl | rfl
          · exact act_base 9999 rfl
          · exact act_base 4999 rfl
          · exact act_base 8999 rfl
          · exact act_base 3999 rfl
        have hP : Own w0 u9 [row (nd27) 44 #[.iface 220 (.pointer (some ⟨nd25, 0, none⟩)), .int .i32 loc, .string ⟨#[112, 114, 111, 116, 111, 116, 121, 112, 101]⟩, .int .i32 loc, .int .u8 0, .bool false, .bool false, .bool false], row (nd36) 44 #[.iface 220 (.pointer (some ⟨nd34, 0, none⟩)), .int .i32 loc, .string ⟨#[112, 114, 111, 116, 111, 116, 121, 112, 101]⟩, .int .i32 loc, .int .u8 0, .bool false, .bool false, .bool false], row (nd25) 223 #[.int .u32 0, .int .u32 1, .bool false, .bool false, .bool false], row (nd34) 223 #[.int .u32 0, .int .u32 1, .bool false, .bool false, .bool false]] _ := (hG.pick [9999, 4999, 8999, 3999] (by decide) hM).conv (by
          show [rLri7R loc kl nd8 nd15 nd22 nd23 nd24 nd25 nd26 nd27 nd31 nd32 nd33 nd34 nd35 nd36 L9 α 9999, rLri7R loc kl nd8 nd15 nd22 nd23 nd24 nd25 nd26 nd27 nd31 nd32 nd33 nd34 nd35 nd36 L9 α 4999, rLri7R loc kl nd8 nd15 nd22 nd23 nd24 nd25 nd26 nd27 nd31 nd32 nd33 nd34 nd35 nd36 L9 α 8999, rLri7R loc kl nd8 nd15 nd22 nd23 nd24 nd25 nd26 nd27 nd31 nd32 nd33 nd34 nd35 nd36 L9 α 3999] = _
          rw [e0, e1, e2, e3])
        clear e0 e1 e2 e3 hM
        refine Calls.mono (nodeD nd25 nd34 loc 0 1 nd27 nd36 ⟨#[112, 114, 111, 116, 111, 116, 121, 112, 101]⟩ _ _ _ hP ) ?_
        rintro e9 u1 ⟨rfl, hQ⟩
        obtain ⟨α', hα'⟩ : ∃ α' : Rega.Atoms, α' = α := ⟨_, rfl⟩
        have f0 : rLri7R loc kl nd8 nd15 nd22 nd23 nd24 nd25 nd26 nd27 nd31 nd32 nd33 nd34 nd35 nd36 (Rega.ran L9 22) α' 9999 = row (nd27) 44 #[.iface 220 (.pointer (some ⟨nd25, 0, none⟩)), .int .i32 loc, .string ⟨#[112, 114, 111, 116, 111, 116, 121, 112, 101]⟩, .int .i32 loc, .int .u8 0, .bool false, .bool false, .bool false] := rfl
        have f1 : rLri7R loc kl nd8 nd15 nd22 nd23 nd24 nd25 nd26 nd27 nd31 nd32 nd33 nd34 nd35 nd36 (Rega.ran L9 22) α' 4999 = row (nd36) 44 #[.iface 220 (.pointer (some ⟨nd34, 0, none⟩)), .int .i32 loc, .string ⟨#[112, 114, 111, 116, 111, 116, 121, 112, 101]⟩, .int .i32 loc, .int .u8 0, .bool false, .bool false, .bool false] := rfl
        have f2 : rLri7R loc kl nd8 nd15 nd22 nd23 nd24 nd25 nd26 nd27 nd31 nd32 nd33 nd34 nd35 nd36 (Rega.ran L9 22) α' 8999 = row (nd25) 223 #[.int .u32 0, .int .u32 1, .bool false, .bool false, .bool false] := rfl
        have f3 : rLri7R loc kl nd8 nd15 nd22 nd23 nd24 nd25 nd26 nd27 nd31 nd32 nd33 nd34 nd35 nd36 (Rega.ran L9 22) α' 3999 = row (nd34) 223 #[.int .u32 0, .int .u32 1, .bool false, .bool false, .bool false] := rfl
        have hα : ∀ j, j % 1000 ≠ 22 → α' j = α j := fun j hj => by rw [hα']
        skip
        refine hK _ α' _ hα ?_ (step_call (st9) hL hcl hα [9999, 4999, 8999, 3999] [9999, 4999, 8999, 3999] (by decide) (by decide) (by decide) (M := _) ?_ hG hQ)
        · rfl
        · show [rLri7R loc kl nd8 nd15 nd22 nd23 nd24 nd25 nd26 nd27 nd31 nd32 nd33 nd34 nd35 nd36 (Rega.ran L9 22) α' 9999, rLri7R loc kl nd8 nd15 nd22 nd23 nd24 nd25 nd26 nd27 nd31 nd32 nd33 nd34 nd35 nd36 (Rega.ran L9 22) α' 4999, rLri7R loc kl nd8 nd15 nd22 nd23 nd24 nd25 nd26 nd27 nd31 nd32 nd33 nd34 nd35 nd36 (Rega.ran L9 22) α' 8999, rLri7R loc kl nd8 nd15 nd22 nd23 nd24 nd25 nd26 nd27 nd31 nd32 nd33 nd34 nd35 nd36 (Rega.ran L9 22) α' 3999] = _
          rw [f0, f1, f2, f3]
      · intro L9 α a9 u9 K9 hL hcl hA hG hS h0 hK
        replace hL : L9 23 = false := hL
        have q125 : a9.tmps[125]? = some (.bool false) := hS 9 125 (by decide) rfl (by show 125 < 178; decide)
        have s125 := Rega.eval_of q125
        have q138 : a9.tmps[138]? = some (.bool false) := hS 22 138 (by decide) rfl (by show 138 < 178; decide)
        have s138 := Rega.eval_of q138
        go_simp
        exact hK _ α _ (fun _ _ => rfl) rfl (step_same (st9) hL hcl rfl rfl hG)
    · clear st9
      intro α u hG
      have e0 : rLri7R loc kl nd8 nd15 nd22 nd23 nd24 nd25 nd26 nd27 nd31 nd32 nd33 nd34 nd35 nd36 (fun k => decide (k < 24)) α 999 = row (nd32) 223 #[.int .u32 0, .int .u32 3, .bool false, .bool false, .bool false] := rfl
      have e1 : rLri7R loc kl nd8 nd15 nd22 nd23 nd24 nd25 nd26 nd27 nd31 nd32 nd33 nd34 nd35 nd36 (fun k => decide (k < 24)) α 1999 = row (nd31) 56 #[.iface 220 (.pointer (some ⟨nd32, 0, none⟩)), .int .i32 loc, .slice (some ⟨nd33, 0, none⟩) 3 3, .int .i32 0, .int .u8 0, .int .u8 0, .bool false, .bool false] := rfl
      have e2 : rLri7R loc kl nd8 nd15 nd22 nd23 nd24 nd25 nd26 nd27 nd31 nd32 nd33 nd34 nd35 nd36 (fun k => decide (k < 24)) α 2999 = row (nd33) 30 #[.iface 40 (.pointer (some ⟨nd36, 0, none⟩)), .int .i32 loc, .iface 220 (.pointer (some ⟨nd35, 0, none⟩)), .int .i32 loc, .iface 50 (.pointer (some ⟨nd15, 0, none⟩)), .int .i32 kl] := rfl
      have e3 : rLri7R loc kl nd8 nd15 nd22 nd23 nd24 nd25 nd26 nd27 nd31 nd32 nd33 nd34 nd35 nd36 (fun k => decide (k < 24)) α 3999 = row (nd34) 223 #[.int .u32 0, .int .u32 1, .bool false, .bool false, .bool false] := rfl
      have e4 : rLri7R loc kl nd8 nd15 nd22 nd23 nd24 nd25 nd26 nd27 nd31 nd32 nd33 nd34 nd35 nd36 (fun k => decide (k < 24)) α 4999 = row (nd36) 44 #[.iface 220 (.pointer (some ⟨nd34, 0, none⟩)), .int .i32 loc, .string ⟨#[112, 114, 111, 116, 111, 116, 121, 112, 101]⟩, .int .i32 loc, .int .u8 0, .bool false, .bool false, .bool false] := rfl
      have e5 : rLri7R loc kl nd8 nd15 nd22 nd23 nd24 nd25 nd26 nd27 nd31 nd32 nd33 nd34 nd35 nd36 (fun k => decide (k < 24)) α 5999 = row (nd23) 223 #[.int .u32 0, .int .u32 3, .bool false, .bool false, .bool false] := rfl
      have e6 : rLri7R loc kl nd8 nd15 nd22 nd23 nd24 nd25 nd26 nd27 nd31 nd32 nd33 nd34 nd35 nd36 (fun k => decide (k < 24)) α 6999 = row (nd22) 56 #[.iface 220 (.pointer (some ⟨nd23, 0, none⟩)), .int .i32 loc, .slice (some ⟨nd24, 0, none⟩) 3 3, .int .i32 0, .int .u8 0, .int .u8 0, .bool false, .bool false] := rfl
      have e7 : rLri7R loc kl nd8 nd15 nd22 nd23 nd24 nd25 nd26 nd27 nd31 nd32 nd33 nd34 nd35 nd36 (fun k => decide (k < 24)) α 7999 = row (nd24) 30 #[.iface 40 (.pointer (some ⟨nd27, 0, none⟩)), .int .i32 loc, .iface 220 (.pointer (some ⟨nd26, 0, none⟩)), .int .i32 loc, .iface 50 (.pointer (some ⟨nd8, 0, none⟩)), .int .i32 kl] := rfl
      have e8 : rLri7R loc kl nd8 nd15 nd22 nd23 nd24 nd25 nd26 nd27 nd31 nd32 nd33 nd34 nd35 nd36 (fun k => decide (k < 24)) α 8999 = row (nd25) 223 #[.int .u32 0, .int .u32 1, .bool false, .bool false, .bool false] := rfl
      have e9 : rLri7R loc kl nd8 nd15 nd22 nd23 nd24 nd25 nd26 nd27 nd31 nd32 nd33 nd34 nd35 nd36 (fun k => decide (k < 24)) α 9999 = row (nd27) 44 #[.iface 220 (.pointer (some ⟨nd25, 0, none⟩)), .int .i32 loc, .string ⟨#[112, 114, 111, 116, 111, 116, 121, 112, 101]⟩, .int .i32 loc, .int .u8 0, .bool false, .bool false, .bool false] := rfl
      have hO : Own w0 u [row (nd32) 223 #[.int .u32 0, .int .u32 3, .bool false, .bool false, .bool false], row (nd31) 56 #[.iface 220 (.pointer (some ⟨nd32, 0, none⟩)), .int .i32 loc, .slice (some ⟨nd33, 0, none⟩) 3 3, .int .i32 0, .int .u8 0, .int .u8 0, .bool false, .bool false], row (nd33) 30 #[.iface 40 (.pointer (some ⟨nd36, 0, none⟩)), .int .i32 loc, .iface 220 (.pointer (some ⟨nd35, 0, none⟩)), .int .i32 loc, .iface 50 (.pointer (some ⟨nd15, 0, none⟩)), .int .i32 kl], row (nd34) 223 #[.int .u32 0, .int .u32 1, .bool false, .bool false, .bool false], row (nd36) 44 #[.iface 220 (.pointer (some ⟨nd34, 0, none⟩)), .int .i32 loc, .string ⟨#[112, 114, 111, 116, 111, 116, 121, 112, 101]⟩, .int .i32 loc, .int .u8 0, .bool false, .bool false, .bool false], row (nd23) 223 #[.int .u32 0, .int .u32 3, .bool false, .bool false, .bool false], row (nd22) 56 #[.iface 220 (.pointer (some ⟨nd23, 0, none⟩)), .int .i32 loc, .slice (some ⟨nd24, 0, none⟩) 3 3, .int .i32 0, .int .u8 0, .int .u8 0, .bool false, .bool false], row (nd24) 30 #[.iface 40 (.pointer (some ⟨nd27, 0, none⟩)), .int .i32 loc, .iface 220 (.pointer (some ⟨nd26, 0, none⟩)), .int .i32 loc, .iface 50 (.pointer (some ⟨nd8, 0, none⟩)), .int .i32 kl], row (nd25) 223 #[.int .u32 0, .int .u32 1, .bool false, .bool false, .bool false], row (nd27) 44 #[.iface 220 (.pointer (some ⟨nd25, 0, none⟩)), .int .i32 loc, .string ⟨#[112, 114, 111, 116, 111, 116, 121, 112, 101]⟩, .int .i32 loc, .int .u8 0, .bool false, .bool false, .bool false]] X9_40 := (hG.list [999, 1999, 2999, 3999, 4999, 5999, 6999, 7999, 8999, 9999] (by decide) (act_all (by decide))).conv (by
        show [rLri7R loc kl nd8 nd15 nd22 nd23 nd24 nd25 nd26 nd27 nd31 nd32 nd33 nd34 nd35 nd36 (fun k => decide (k < 24)) α 999, rLri7R loc kl nd8 nd15 nd22 nd23 nd24 nd25 nd26 nd27 nd31 nd32 nd33 nd34 nd35 nd36 (fun k => decide (k < 24)) α 1999, rLri7R loc kl nd8 nd15 nd22 nd23 nd24 nd25 nd26 nd27 nd31 nd32 nd33 nd34 nd35 nd36 (fun k => decide (k < 24)) α 2999, rLri7R loc kl nd8 nd15 nd22 nd23 nd24 nd25 nd26 nd27 nd31 nd32 nd33 nd34 nd35 nd36 (fun k => decide (k < 24)) α 3999, rLri7R loc kl nd8 nd15 nd22 nd23 nd24 nd25 nd26 nd27 nd31 nd32 nd33 nd34 nd35 nd36 (fun k => decide (k < 24)) α 4999, rLri7R loc kl nd8 nd15 nd22 nd23 nd24 nd25 nd26 nd27 nd31 nd32 nd33 nd34 nd35 nd36 (fun k => decide (k < 24)) α 5999, rLri7R loc kl nd8 nd15 nd22 nd23 nd24 nd25 nd26 nd27 nd31 nd32 nd33 nd34 nd35 nd36 (fun k => decide (k < 24)) α 6999, rLri7R loc kl nd8 nd15 nd22 nd23 nd24 nd25 nd26 nd27 nd31 nd32 nd33 nd34 nd35 nd36 (fun k => decide (k < 24)) α 7999, rLri7R loc kl nd8 nd15 nd22 nd23 nd24 nd25 nd26 nd27 nd31 nd32 nd33 nd34 nd35 nd36 (fun k => decide (k < 24)) α 8999, rLri7R loc kl nd8 nd15 nd22 nd23 nd24 nd25 nd26 nd27 nd31 nd32 nd33 nd34 nd35 nd36 (fun k => decide (k < 24)) α 9999] = _
        rw [e0, e1, e2, e3, e4, e5, e6, e7, e8, e9])
      clear hG e0 e1 e2 e3 e4 e5 e6 e7 e8 e9
      generalize hfr : Rega.frameAt _ _ _ _ _ = fr
      have hdf : fr = ⟨#[.bool true, .bool false, .int .i32 loc, .int .i32 kl, .string nm, undef, undef, undef, undef, undef, .bool false, .pointer (some ⟨nd2, 0, none⟩), .pointer (some ⟨B12, 0, none⟩), .pointer (some ⟨B19, 0, none⟩), .pointer (some ⟨B28, 0, none⟩), .pointer (some ⟨B37, 0, none⟩), .pointer (some ⟨nd22, 0, none⟩), .pointer (some ⟨nd31, 0, none⟩), .bool true, .bool false, .int .i32 loc, .int .i32 kl, .string nm, .bool true, .bool false, .string nm, .int .i64 (nm.size : Int), .bool (decide (65536 < (nm.size : Int))), .bool true, .bool false, .pointer (some ⟨nd2, 0, none⟩), .int .i32 kl, .string nm, .agg #[.iface 50 (.pointer (some ⟨nd8, 0, none⟩)), .int .i32 kl], .int .i32 kl, .string nm, .agg #[.iface 50 (.pointer (some ⟨nd15, 0, none⟩)), .int .i32 kl], .pointer (some ⟨nd2, 0, none⟩), .int .i32 loc, .agg #[.iface 50 (.pointer (some ⟨nd8, 0, none⟩)), .int .i32 kl], .agg #[.iface 52 (.pointer (some ⟨nd22, 0, none⟩)), .int .i32 loc], .pointer (some ⟨nd2, 0, none⟩), .int .i32 loc, .agg #[.iface 50 (.pointer (some ⟨nd15, 0, none⟩)), .int .i32 kl], .agg #[.iface 52 (.pointer (some ⟨nd31, 0, none⟩)), .int .i32 loc], .agg #[.iface 52 (.pointer (some ⟨nd22, 0, none⟩)), .int .i32 loc], .pointer (some ⟨nd22, 0, none⟩), .agg #[.iface 52 (.pointer (some ⟨nd31, 0, none⟩)), .int .i32 loc], .pointer (some ⟨nd31, 0, none⟩), .pointer (some ⟨nd22, 0, none⟩), .bool false, .bool false, .pointer (some ⟨nd31, 0, none⟩), .bool false, .bool false, .bool false, .pointer (some ⟨nd22, 0, none⟩), .pointer (some ⟨nd31, 0, none⟩), .bool false, .bool false, .pointer (some ⟨nd22, 0, none⟩), .pointer (some ⟨nd22, 0, none⟩), .pointer (some ⟨nd22, 2, none⟩), .slice (some ⟨nd24, 0, none⟩) 3 3, .int .i64 3, .bool false, .bool false, .pointer (some ⟨nd31, 0, none⟩), .pointer (some ⟨nd31, 0, none⟩), .pointer (some ⟨nd31, 2, none⟩), .slice (some ⟨nd33, 0, none⟩) 3 3, .int .i64 3, .bool false, .bool false, .pointer (some ⟨nd22, 0, none⟩), .pointer (some ⟨nd22, 0, none⟩), .pointer (some ⟨nd22, 0, none⟩), .agg #[.iface 220 (.pointer (some ⟨nd23, 0, none⟩)), .int .i32 loc], .pointer (some ⟨nd31, 0, none⟩), .pointer (some ⟨nd31, 0, none⟩), .pointer (some ⟨nd31, 0, none⟩), .agg #[.iface 220 (.pointer (some ⟨nd32, 0, none⟩)), .int .i32 loc], .bool true, .bool false, .bool false, .pointer (some ⟨nd22, 0, none⟩), .pointer (some ⟨nd22, 0, none⟩), .pointer (some ⟨nd22, 2, none⟩), .slice (some ⟨nd24, 0, none⟩) 3 3, .pointer (some ⟨nd24, 0, none⟩), .agg #[.iface 40 (.pointer (some ⟨nd27, 0, none⟩)), .int .i32 loc], .pointer (some ⟨nd31, 0, none⟩), .pointer (some ⟨nd31, 0, none⟩), .pointer (some ⟨nd31, 2, none⟩), .slice (some ⟨nd33, 0, none⟩) 3 3, .pointer (some ⟨nd33, 0, none⟩), .agg #[.iface 40 (.pointer (some ⟨nd36, 0, none⟩)), .int .i32 loc], .bool true, .bool false, .bool false, .bool false, .pointer (some ⟨nd22, 0, none⟩), .pointer (some ⟨nd22, 0, none⟩), .pointer (some ⟨nd22, 2, none⟩), .slice (some ⟨nd24, 0, none⟩) 3 3, .pointer (some ⟨nd24, 2, none⟩), .agg #[.iface 220 (.pointer (some ⟨nd26, 0, none⟩)), .int .i32 loc], .pointer (some ⟨nd31, 0, none⟩), .pointer (some ⟨nd31, 0, none⟩), .pointer (some ⟨nd31, 2, none⟩), .slice (some ⟨nd33, 0, none⟩) 3 3, .pointer (some ⟨nd33, 2, none⟩), .agg #[.iface 220 (.pointer (some ⟨nd35, 0, none⟩)), .int .i32 loc], .bool true, .bool false, .bool false, .pointer (some ⟨nd22, 0, none⟩), .pointer (some ⟨nd22, 0, none⟩), .pointer (some ⟨nd22, 0, none⟩), .agg #[.iface 220 (.pointer (some ⟨nd23, 0, none⟩)), .int .i32 loc], .pointer (some ⟨nd31, 0, none⟩), .pointer (some ⟨nd31, 0, none⟩), .pointer (some ⟨nd31, 0, none⟩), .agg #[.iface 220 (.pointer (some ⟨nd32, 0, none⟩)), .int .i32 loc], .bool false, .bool false, .pointer (some ⟨nd22, 0, none⟩), .pointer (some ⟨nd22, 0, none⟩), .pointer (some ⟨nd22, 2, none⟩), .slice (some ⟨nd24, 0, none⟩) 3 3, .pointer (some ⟨nd24, 0, none⟩), .agg #[.iface 40 (.pointer (some ⟨nd27, 0, none⟩)), .int .i32 loc], .pointer (some ⟨nd31, 0, none⟩), .pointer (some ⟨nd31, 0, none⟩), .pointer (some ⟨nd31, 2, none⟩), .slice (some ⟨nd33, 0, none⟩) 3 3, .pointer (some ⟨nd33, 0, none⟩), .agg #[.iface 40 (.pointer (some ⟨nd36, 0, none⟩)), .int .i32 loc], .bool false, .bool false, undef, undef, undef, undef, undef, undef, undef, undef, undef, undef, undef, undef, undef, undef, undef, undef, undef, undef, undef, undef, undef, undef, undef, undef, undef, undef, undef, undef, undef, undef, undef, undef, undef, undef, undef, undef, undef, undef], []⟩ := by rw [← hfr]; kernel_rfl
      clear hfr
      subst hdf
      clear α
      subst hX9_40
      have hN : Own w0 u [row (nd32) 223 #[.int .u32 0, .int .u32 3, .bool false, .bool false, .bool false], row (nd31) 56 #[.iface 220 (.pointer (some ⟨nd32, 0, none⟩)), .int .i32 loc, .slice (some ⟨nd33, 0, none⟩) 3 3, .int .i32 0, .int .u8 0, .int .u8 0, .bool false, .bool false], row (nd33) 30 #[.iface 40 (.pointer (some ⟨nd36, 0, none⟩)), .int .i32 loc, .iface 220 (.pointer (some ⟨nd35, 0, none⟩)), .int .i32 loc, .iface 50 (.pointer (some ⟨nd15, 0, none⟩)), .int .i32 kl], row (nd34) 223 #[.int .u32 0, .int .u32 1, .bool false, .bool false, .bool false], row (nd36) 44 #[.iface 220 (.pointer (some ⟨nd34, 0, none⟩)), .int .i32 loc, .string ⟨#[112, 114, 111, 116, 111, 116, 121, 112, 101]⟩, .int .i32 loc, .int .u8 0, .bool false, .bool false, .bool false], row (nd23) 223 #[.int .u32 0, .int .u32 3, .bool false, .bool false, .bool false], row (nd22) 56 #[.iface 220 (.pointer (some ⟨nd23, 0, none⟩)), .int .i32 loc, .slice (some ⟨nd24, 0, none⟩) 3 3, .int .i32 0, .int .u8 0, .int .u8 0, .bool false, .bool false], row (nd24) 30 #[.iface 40 (.pointer (some ⟨nd27, 0, none⟩)), .int .i32 loc, .iface 220 (.pointer (some ⟨nd26, 0, none⟩)), .int .i32 loc, .iface 50 (.pointer (some ⟨nd8, 0, none⟩)), .int .i32 kl], row (nd25) 223 #[.int .u32 0, .int .u32 1, .bool false, .bool false, .bool false], row (nd27) 44 #[.iface 220 (.pointer (some ⟨nd25, 0, none⟩)), .int .i32 loc, .string ⟨#[112, 114, 111, 116, 111, 116, 121, 112, 101]⟩, .int .i32 loc, .int .u8 0, .bool false, .bool false, .bool false], row (nd35) 223 #[.int .u32 0, .int .u32 1, .bool false, .bool false, .bool false], row (nd26) 223 #[.int .u32 0, .int .u32 1, .bool false, .bool false, .bool false], row (B37) 30 #[.iface 52 (.pointer (some ⟨nd31, 0, none⟩)), .int .i32 loc], row (B28) 30 #[.iface 52 (.pointer (some ⟨nd22, 0, none⟩)), .int .i32 loc], row (B19) 30 #[.iface 50 (.pointer (some ⟨nd15, 0, none⟩)), .int .i32 kl], row (nd15) 214 #[.slice (some ⟨nd16, 0, none⟩) nd17 nd18, .int .i32 0, .bool false, .bool false, .bool false], row (B12) 30 #[.iface 50 (.pointer (some ⟨nd8, 0, none⟩)), .int .i32 kl], row (nd8) 214 #[.slice (some ⟨nd9, 0, none⟩) nd10 nd11, .int .i32 0, .bool false, .bool false, .bool false]] X := hO.back HL.out HX.out [4, 10, 12, 13, 14, 15, 16, 17] (by decide) (by decide)
      clear hO HL HX
      have hO := hN
      clear hN
      have ne9_0_3 : ¬ nd32 = nd34 := hO.ne 0 3 rfl rfl (by decide)
      have ne9_0_5 : ¬ nd32 = nd23 := hO.ne 0 5 rfl rfl (by decide)
      have ne9_0_8 : ¬ nd32 = nd25 := hO.ne 0 8 rfl rfl (by decide)
      have ne9_0_10 : ¬ nd32 = nd35 := hO.ne 0 10 rfl rfl (by decide)
      have ne9_0_11 : ¬ nd32 = nd26 := hO.ne 0 11 rfl rfl (by decide)
      have ne9_1_6 : ¬ nd31 = nd22 := hO.ne 1 6 rfl rfl (by decide)
      have ne9_2_7 : ¬ nd33 = nd24 := hO.ne 2 7 rfl rfl (by decide)
      have ne9_2_12 : ¬ nd33 = B37 := hO.ne 2 12 rfl rfl (by decide)
      have ne9_2_13 : ¬ nd33 = B28 := hO.ne 2 13 rfl rfl (by decide)
      have ne9_2_14 : ¬ nd33 = B19 := hO.ne 2 14 rfl rfl (by decide)
      have ne9_2_16 : ¬ nd33 = B12 := hO.ne 2 16 rfl rfl (by decide)
      have ne9_3_0 : ¬ nd34 = nd32 := hO.ne 3 0 rfl rfl (by decide)
      have ne9_3_5 : ¬ nd34 = nd23 := hO.ne 3 5 rfl rfl (by decide)
      have ne9_3_8 : ¬ nd34 = nd25 := hO.ne 3 8 rfl rfl (by decide)
      have ne9_3_10 : ¬ nd34 = nd35 := hO.ne 3 10 rfl rfl (by decide)
      have ne9_3_11 : ¬ nd34 = nd26 := hO.ne 3 11 rfl rfl (by decide)
      have ne9_4_9 : ¬ nd36 = nd27 := hO.ne 4 9 rfl rfl (by decide)
      have ne9_5_0 : ¬ nd23 = nd32 := hO.ne 5 0 rfl rfl (by decide)
      have ne9_5_3 : ¬ nd23 = nd34 := hO.ne 5 3 rfl rfl (by decide)
      have ne9_5_8 : ¬ nd23 = nd25 := hO.ne 5 8 rfl rfl (by decide)
      have ne9_5_10 : ¬ nd23 = nd35 := hO.ne 5 10 rfl rfl (by decide)
      have ne9_5_11 : ¬ nd23 = nd26 := hO.ne 5 11 rfl rfl (by decide)
      have ne9_6_1 : ¬ nd22 = nd31 := hO.ne 6 1 rfl rfl (by decide)
      have ne9_7_2 : ¬ nd24 = nd33 := hO.ne 7 2 rfl rfl (by decide)
      have ne9_7_12 : ¬ nd24 = B37 := hO.ne 7 12 rfl rfl (by decide)
      have ne9_7_13 : ¬ nd24 = B28 := hO.ne 7 13 rfl rfl (by decide)
      have ne9_7_14 : ¬ nd24 = B19 := hO.ne 7 14 rfl rfl (by decide)
      have ne9_7_16 : ¬ nd24 = B12 := hO.ne 7 16 rfl rfl (by decide)
      have ne9_8_0 : ¬ nd25 = nd32 := hO.ne 8 0 rfl rfl (by decide)
      have ne9_8_3 : ¬ nd25 = nd34 := hO.ne 8 3 rfl rfl (by decide)
      have ne9_8_5 : ¬ nd25 = nd23 := hO.ne 8 5 rfl rfl (by decide)
      have ne9_8_10 : ¬ nd25 = nd35 := hO.ne 8 10 rfl rfl (by decide)
      have ne9_8_11 : ¬ nd25 = nd26 := hO.ne 8 11 rfl rfl (by decide)
      have ne9_9_4 : ¬ nd27 = nd36 := hO.ne 9 4 rfl rfl (by decide)
      have ne9_10_0 : ¬ nd35 = nd32 := hO.ne 10 0 rfl rfl (by decide)
      have ne9_10_3 : ¬ nd35 = nd34 := hO.ne 10 3 rfl rfl (by decide)
      have ne9_10_5 : ¬ nd35 = nd23 := hO.ne 10 5 rfl rfl (by decide)
      have ne9_10_8 : ¬ nd35 = nd25 := hO.ne 10 8 rfl rfl (by decide)
      have ne9_10_11 : ¬ nd35 = nd26 := hO.ne 10 11 rfl rfl (by decide)
      have ne9_11_0 : ¬ nd26 = nd32 := hO.ne 11 0 rfl rfl (by decide)
      have ne9_11_3 : ¬ nd26 = nd34 := hO.ne 11 3 rfl rfl (by decide)
      have ne9_11_5 : ¬ nd26 = nd23 := hO.ne 11 5 rfl rfl (by decide)
      have ne9_11_8 : ¬ nd26 = nd25 := hO.ne 11 8 rfl rfl (by decide)
      have ne9_11_10 : ¬ nd26 = nd35 := hO.ne 11 10 rfl rfl (by decide)
      have ne9_12_2 : ¬ B37 = nd33 := hO.ne 12 2 rfl rfl (by decide)
      have ne9_12_7 : ¬ B37 = nd24 := hO.ne 12 7 rfl rfl (by decide)
      have ne9_12_13 : ¬ B37 = B28 := hO.ne 12 13 rfl rfl (by decide)
      have ne9_12_14 : ¬ B37 = B19 := hO.ne 12 14 rfl rfl (by decide)
      have ne9_12_16 : ¬ B37 = B12 := hO.ne 12 16 rfl rfl (by decide)
      have ne9_13_2 : ¬ B28 = nd33 := hO.ne 13 2 rfl rfl (by decide)
      have ne9_13_7 : ¬ B28 = nd24 := hO.ne 13 7 rfl rfl (by decide)
      have ne9_13_12 : ¬ B28 = B37 := hO.ne 13 12 rfl rfl (by decide)
      have ne9_13_14 : ¬ B28 = B19 := hO.ne 13 14 rfl rfl (by decide)
      have ne9_13_16 : ¬ B28 = B12 := hO.ne 13 16 rfl rfl (by decide)
      have ne9_14_2 : ¬ B19 = nd33 := hO.ne 14 2 rfl rfl (by decide)
      have ne9_14_7 : ¬ B19 = nd24 := hO.ne 14 7 rfl rfl (by decide)
      have ne9_14_12 : ¬ B19 = B37 := hO.ne 14 12 rfl rfl (by decide)
      have ne9_14_13 : ¬ B19 = B28 := hO.ne 14 13 rfl rfl (by decide)
      have ne9_14_16 : ¬ B19 = B12 := hO.ne 14 16 rfl rfl (by decide)
      have ne9_15_17 : ¬ nd15 = nd8 := hO.ne 15 17 rfl rfl (by decide)
      have ne9_16_2 : ¬ B12 = nd33 := hO.ne 16 2 rfl rfl (by decide)
      have ne9_16_7 : ¬ B12 = nd24 := hO.ne 16 7 rfl rfl (by decide)
      have ne9_16_12 : ¬ B12 = B37 := hO.ne 16 12 rfl rfl (by decide)
      have ne9_16_13 : ¬ B12 = B28 := hO.ne 16 13 rfl rfl (by decide)
      have ne9_16_14 : ¬ B12 = B19 := hO.ne 16 14 rfl rfl (by decide)
      have ne9_17_15 : ¬ nd8 = nd15 := hO.ne 17 15 rfl rfl (by decide)
      obtain ⟨c9_0_0, c9_0_1, c9_0_2, c9_0_3, c9_0_4, lt9_0, y9_0, pl9_0⟩ := hO.k5 0 rfl
      obtain ⟨c9_1_0, c9_1_1, c9_1_2, c9_1_3, c9_1_4, c9_1_5, c9_1_6, c9_1_7, lt9_1, y9_1, pl9_1⟩ := hO.k8 1 rfl
      obtain ⟨c9_2_0, c9_2_1, c9_2_2, c9_2_3, c9_2_4, c9_2_5, lt9_2, y9_2, pl9_2⟩ := hO.k6 2 rfl
      obtain ⟨c9_3_0, c9_3_1, c9_3_2, c9_3_3, c9_3_4, lt9_3, y9_3, pl9_3⟩ := hO.k5 3 rfl
      obtain ⟨c9_4_0, c9_4_1, c9_4_2, c9_4_3, c9_4_4, c9_4_5, c9_4_6, c9_4_7, lt9_4, y9_4, pl9_4⟩ := hO.k8 4 rfl
      obtain ⟨c9_5_0, c9_5_1, c9_5_2, c9_5_3, c9_5_4, lt9_5, y9_5, pl9_5⟩ := hO.k5 5 rfl
      obtain ⟨c9_6_0, c9_6_1, c9_6_2, c9_6_3, c9_6_4, c9_6_5, c9_6_6, c9_6_7, lt9_6, y9_6, pl9_6⟩ := hO.k8 6 rfl
      obtain ⟨c9_7_0, c9_7_1, c9_7_2, c9_7_3, c9_7_4, c9_7_5, lt9_7, y9_7, pl9_7⟩ := hO.k6 7 rfl
      obtain ⟨c9_8_0, c9_8_1, c9_8_2, c9_8_3, c9_8_4, lt9_8, y9_8, pl9_8⟩ := hO.k5 8 rfl
      obtain ⟨c9_9_0, c9_9_1, c9_9_2, c9_9_3, c9_9_4, c9_9_5, c9_9_6, c9_9_7, lt9_9, y9_9, pl9_9⟩ := hO.k8 9 rfl
      obtain ⟨c9_10_0, c9_10_1, c9_10_2, c9_10_3, c9_10_4, lt9_10, y9_10, pl9_10⟩ := hO.k5 10 rfl
      obtain ⟨c9_11_0, c9_11_1, c9_11_2, c9_11_3, c9_11_4, lt9_11, y9_11, pl9_11⟩ := hO.k5 11 rfl
      obtain ⟨c9_12_0, c9_12_1, lt9_12, y9_12, pl9_12⟩ := hO.k2 12 rfl
      obtain ⟨c9_13_0, c9_13_1, lt9_13, y9_13, pl9_13⟩ := hO.k2 13 rfl
      obtain ⟨c9_14_0, c9_14_1, lt9_14, y9_14, pl9_14⟩ := hO.k2 14 rfl
      obtain ⟨c9_15_0, c9_15_1, c9_15_2, c9_15_3, c9_15_4, lt9_15, y9_15, pl9_15⟩ := hO.k5 15 rfl
      obtain ⟨c9_16_0, c9_16_1, lt9_16, y9_16, pl9_16⟩ := hO.k2 16 rfl
      obtain ⟨c9_17_0, c9_17_1, c9_17_2, c9_17_3, c9_17_4, lt9_17, y9_17, pl9_17⟩ := hO.k5 17 rfl
      have HO := Lib.hid hO
      clear hO
      go_wp2_with (first | (go_at_call 39; go_in) | (go_at_call 40; go_in) | (go_at_call 18; go_in) | (go_at_call 23; go_in) | (go_at_call 21; go_in) | (go_at_call 41; go_in) | (go_at_call 42; go_in) | (go_at_call 28; go_in) | (go_at_call 43; go_in) | (go_at_call 22; go_in))
      have hO := HO.out
      clear HO ne9_0_3 ne9_0_5 ne9_0_8 ne9_0_10 ne9_0_11 ne9_1_6 ne9_2_7 ne9_2_12 ne9_2_13 ne9_2_14 ne9_2_16 ne9_3_0 ne9_3_5 ne9_3_8 ne9_3_10 ne9_3_11 ne9_4_9 ne9_5_0 ne9_5_3 ne9_5_8 ne9_5_10 ne9_5_11 ne9_6_1 ne9_7_2 ne9_7_12 ne9_7_13 ne9_7_14 ne9_7_16 ne9_8_0 ne9_8_3 ne9_8_5 ne9_8_10 ne9_8_11 ne9_9_4 ne9_10_0 ne9_10_3 ne9_10_5 ne9_10_8 ne9_10_11 ne9_11_0 ne9_11_3 ne9_11_5 ne9_11_8 ne9_11_10 ne9_12_2 ne9_12_7 ne9_12_13 ne9_12_14 ne9_12_16 ne9_13_2 ne9_13_7 ne9_13_12 ne9_13_14 ne9_13_16 ne9_14_2 ne9_14_7 ne9_14_12 ne9_14_13 ne9_14_16 ne9_15_17 ne9_16_2 ne9_16_7 ne9_16_12 ne9_16_13 ne9_16_14 ne9_17_15 c9_0_0 c9_0_1 c9_0_2 c9_0_3 c9_0_4 lt9_0 y9_0 pl9_0 c9_1_0 c9_1_1 c9_1_2 c9_1_3 c9_1_4 c9_1_5 c9_1_6 c9_1_7 lt9_1 y9_1 pl9_1 c9_2_0 c9_2_1 c9_2_2 c9_2_3 c9_2_4 c9_2_5 lt9_2 y9_2 pl9_2 c9_3_0 c9_3_1 c9_3_2 c9_3_3 c9_3_4 lt9_3 y9_3 pl9_3 c9_4_0 c9_4_1 c9_4_2 c9_4_3 c9_4_4 c9_4_5 c9_4_6 c9_4_7 lt9_4 y9_4 pl9_4 c9_5_0 c9_5_1 c9_5_2 c9_5_3 c9_5_4 lt9_5 y9_5 pl9_5 c9_6_0 c9_6_1 c9_6_2 c9_6_3 c9_6_4 c9_6_5 c9_6_6 c9_6_7 lt9_6 y9_6 pl9_6 c9_7_0 c9_7_1 c9_7_2 c9_7_3 c9_7_4 c9_7_5 lt9_7 y9_7 pl9_7 c9_8_0 c9_8_1 c9_8_2 c9_8_3 c9_8_4 lt9_8 y9_8 pl9_8 c9_9_0 c9_9_1 c9_9_2 c9_9_3 c9_9_4 c9_9_5 c9_9_6 c9_9_7 lt9_9 y9_9 pl9_9 c9_10_0 c9_10_1 c9_10_2 c9_10_3 c9_10_4 lt9_10 y9_10 pl9_10 c9_11_0 c9_11_1 c9_11_2 c9_11_3 c9_11_4 lt9_11 y9_11 pl9_11 c9_12_0 c9_12_1 lt9_12 y9_12 pl9_12 c9_13_0 c9_13_1 lt9_13 y9_13 pl9_13 c9_14_0 c9_14_1 lt9_14 y9_14 pl9_14 c9_15_0 c9_15_1 c9_15_2 c9_15_3 c9_15_4 lt9_15 y9_15 pl9_15 c9_16_0 c9_16_1 lt9_16 y9_16 pl9_16 c9_17_0 c9_17_1 c9_17_2 c9_17_3 c9_17_4 lt9_17 y9_17 pl9_17
      have hL := hO.apart
      have hX := hO.apartX
      have HL := Lib.hid hL
      have HX := Lib.hid hX
      clear hL hX
      have hP9 := hO.pick [1, 2, 6, 7, 10, 11] (by decide)
      generalize hX9_41 : Own.Rest _ _ X = X9_41 at hP9
      replace hP9 : Own w0 u [row (nd31) 56 #[.iface 220 (.pointer (some ⟨nd32, 0, none⟩)), .int .i32 loc, .slice (some ⟨nd33, 0, none⟩) 3 3, .int .i32 0, .int .u8 0, .int .u8 0, .bool false, .bool false], row (nd33) 30 #[.iface 40 (.pointer (some ⟨nd36, 0, none⟩)), .int .i32 loc, .iface 220 (.pointer (some ⟨nd35, 0, none⟩)), .int .i32 loc, .iface 50 (.pointer (some ⟨nd15, 0, none⟩)), .int .i32 kl], row (nd22) 56 #[.iface 220 (.pointer (some ⟨nd23, 0, none⟩)), .int .i32 loc, .slice (some ⟨nd24, 0, none⟩) 3 3, .int .i32 0, .int .u8 0, .int .u8 0, .bool false, .bool false], row (nd24) 30 #[.iface 40 (.pointer (some ⟨nd27, 0, none⟩)), .int .i32 loc, .iface 220 (.pointer (some ⟨nd26, 0, none⟩)), .int .i32 loc, .iface 50 (.pointer (some ⟨nd8, 0, none⟩)), .int .i32 kl], row (nd35) 223 #[.int .u32 0, .int .u32 1, .bool false, .bool false, .bool false], row (nd26) 223 #[.int .u32 0, .int .u32 1, .bool false, .bool false, .bool false]] X9_41 := hP9
      clear hO
      have hO := hP9
      clear hP9
      have st9 := rLri8_st loc kl nd8 nd15 nd22 nd23 nd24 nd26 nd27 nd31 nd32 nd33 nd35 nd36
      refine wp_region_own (e := rLri8E loc kl nd8 nd15 nd22 nd23 nd24 nd26 nd27 nd31 nd32 nd33 nd35 nd36) (anc := rLri8Anc) (G := (fun L9 α u9 => OwnF w0 u9 (act rLri8Cnt 6 L9) (rLri8R loc kl nd8 nd15 nd22 nd23 nd24 nd26 nd27 nd31 nd32 nd33 nd35 nd36 L9 α) X9_41)) (by kernel_rfl) (by kernel_rfl) (by kernel_rfl) (by kernel_rfl) (rLri8_he loc kl nd8 nd15 nd22 nd23 nd24 nd26 nd27 nd31 nd32 nd33 nd35 nd36) ?_ (RunsAll.all ?_) ?_
      · have hp : ∀ i, act rLri8Cnt 6 (fun _ => false) i → i ∈ [999, 1999, 2999, 3999, 4999, 5999] := by
          intro i hi
          have h9 : i % 1000 = 999 := by
            by_cases h : i % 1000 = 999
            · exact h
            · exact absurd (act_lt hi h) (by simp)
          unfold act at hi
          rw [if_pos h9] at hi
          simp only [List.mem_cons, List.not_mem_nil, or_false]
          omega
        refine hO.drew.family (fun i hi => ?_) (fun i j hi hj hij => ?_)
        · have := hp i hi
          simp only [List.mem_cons, List.not_mem_nil, or_false] at this
          rcases this with rfl | rfl | rfl | rfl | rfl | rfl <;> rfl
        · have h1 := hp i hi
          have h2 := hp j hj
          simp only [List.mem_cons, List.not_mem_nil, or_false] at h1 h2
          omega
      · refine ⟨?_, ?_, ?_, ?_, ?_, ?_, ?_, ?_, ?_, ?_, ?_, ?_, ?_, ?_, ?_, ?_, trivial⟩
        · intro L9 α a9 u9 K9 hL hcl hA hG hS h0 hK
          replace hL : L9 0 = false := hL
          have q0 : a9.tmps[0]? = some (.bool true) := (h0 0 (by kernel_rfl)).trans rfl
          have s0 := Rega.eval_of q0
          go_simp
          exact hK _ α _ (fun _ _ => rfl) rfl (step_same (st9) hL hcl rfl rfl hG)
        · intro L9 α a9 u9 K9 hL hcl hA hG hS h0 hK
          replace hL : L9 1 = false := hL
          have q140 : a9.tmps[140]? = some (.bool true) := hS 0 140 (by decide) rfl (by show 140 < 178; decide)
          have s140 := Rega.eval_of q140
          go_simp
          exact hK _ α _ (fun _ _ => rfl) rfl (step_same (st9) hL hcl rfl rfl hG)
        · intro L9 α a9 u9 K9 hL hcl hA hG hS h0 hK
          replace hL : L9 2 = false := hL
          have q16 : a9.tmps[16]? = some (.pointer (some ⟨nd22, 0, none⟩)) := (h0 16 (by kernel_rfl)).trans rfl
          have s16 := Rega.eval_of q16
          have q141 : a9.tmps[141]? = some (.bool true) := hS 1 141 (by decide) rfl (by show 141 < 178; decide)
          have s141 := Rega.eval_of q141
          go_simp
          exact hK _ α _ (fun _ _ => rfl) rfl (step_same (st9) hL hcl rfl rfl hG)
        · intro L9 α a9 u9 K9 hL hcl hA hG hS h0 hK
          replace hL : L9 3 = false := hL
          have q142 : a9.tmps[142]? = some (.pointer (some ⟨nd22, 0, none⟩)) := hS 2 142 (by decide) rfl (by show 142 < 178; decide)
          have s142 := Rega.eval_of q142
          have q141 : a9.tmps[141]? = some (.bool true) := hS 1 141 (by decide) rfl (by show 141 < 178; decide)
          have s141 := Rega.eval_of q141
          go_simp
          exact hK _ α _ (fun _ _ => rfl) rfl (step_same (st9) hL hcl rfl rfl hG)
        · intro L9 α a9 u9 K9 hL hcl hA hG hS h0 hK
          replace hL : L9 4 = false := hL
          have q143 : a9.tmps[143]? = some (.pointer (some ⟨nd22, 0, none⟩)) := hS 3 143 (by decide) rfl (by show 143 < 178; decide)
          have s143 := Rega.eval_of q143
          have q141 : a9.tmps[141]? = some (.bool true) := hS 1 141 (by decide) rfl (by show 141 < 178; decide)
          have s141 := Rega.eval_of q141
          go_simp
          exact hK _ α _ (fun _ _ => rfl) rfl (step_same (st9) hL hcl rfl rfl hG)
        · intro L9 α a9 u9 K9 hL hcl hA hG hS h0 hK
          replace hL : L9 5 = false := hL
          have q144 : a9.tmps[144]? = some (.pointer (some ⟨nd22, 2, none⟩)) := hS 4 144 (by decide) rfl (by show 144 < 178; decide)
          have s144 := Rega.eval_of q144
          have q141 : a9.tmps[141]? = some (.bool true) := hS 1 141 (by decide) rfl (by show 141 < 178; decide)
          have s141 := Rega.eval_of q141
          have e0 : rLri8R loc kl nd8 nd15 nd22 nd23 nd24 nd26 nd27 nd31 nd32 nd33 nd35 nd36 L9 α 2999 = row (nd22) 56 #[.iface 220 (.pointer (some ⟨nd23, 0, none⟩)), .int .i32 loc, .slice (some ⟨nd24, 0, none⟩) 3 3, .int .i32 0, .int .u8 0, .int .u8 0, .bool false, .bool false] := rfl
          have hr := hG.rowAt 2999 (act_base 2999 rfl) e0
          have c0 : u9.cell? ⟨nd22, 2, none⟩ = some (.slice (some ⟨nd24, 0, none⟩) 3 3) := hr.cell rfl
          clear hr e0
          go_simp
          exact hK _ α _ (fun _ _ => rfl) rfl (step_same (st9) hL hcl rfl rfl hG)
        · intro L9 α a9 u9 K9 hL hcl hA hG hS h0 hK
          replace hL : L9 6 = false := hL
          have q145 : a9.tmps[145]? = some (.slice (some ⟨nd24, 0, none⟩) 3 3) := hS 5 145 (by decide) rfl (by show 145 < 178; decide)
          have s145 := Rega.eval_of q145
          have q141 : a9.tmps[141]? = some (.bool true) := hS 1 141 (by decide) rfl (by show 141 < 178; decide)
          have s141 := Rega.eval_of q141
          go_simp
          exact hK _ α _ (fun _ _ => rfl) rfl (step_same (st9) hL hcl rfl rfl hG)
        · intro L9 α a9 u9 K9 hL hcl hA hG hS h0 hK
          replace hL : L9 7 = false := hL
          have q146 : a9.tmps[146]? = some (.pointer (some ⟨nd24, 2, none⟩)) := hS 6 146 (by decide) rfl (by show 146 < 178; decide)
          have s146 := Rega.eval_of q146
          have q141 : a9.tmps[141]? = some (.bool true) := hS 1 141 (by decide) rfl (by show 141 < 178; decide)
          have s141 := Rega.eval_of q141
          have e0 : rLri8R loc kl nd8 nd15 nd22 nd23 nd24 nd26 nd27 nd31 nd32 nd33 nd35 nd36 L9 α 3999 = row (nd24) 30 #[.iface 40 (.pointer (some ⟨nd27, 0, none⟩)), .int .i32 loc, .iface 220 (.pointer (some ⟨nd26, 0, none⟩)), .int .i32 loc, .iface 50 (.pointer (some ⟨nd8, 0, none⟩)), .int .i32 kl] := rfl
          have hr := hG.rowAt 3999 (act_base 3999 rfl) e0
          have c0 : u9.cell? ⟨nd24, 2, none⟩ = some (.iface 220 (.pointer (some ⟨nd26, 0, none⟩))) := hr.cell rfl
          have c1 : u9.cell? ⟨nd24, 3, none⟩ = some (.int .i32 loc) := hr.cell rfl
          clear hr e0
          go_simp
          exact hK _ α _ (fun _ _ => rfl) rfl (step_same (st9) hL hcl rfl rfl hG)
        · intro L9 α a9 u9 K9 hL hcl hA hG hS h0 hK
          replace hL : L9 8 = false := hL
          have q17 : a9.tmps[17]? = some (.pointer (some ⟨nd31, 0, none⟩)) := (h0 17 (by kernel_rfl)).trans rfl
          have s17 := Rega.eval_of q17
          have q141 : a9.tmps[141]? = some (.bool true) := hS 1 141 (by decide) rfl (by show 141 < 178; decide)
          have s141 := Rega.eval_of q141
          go_simp
          exact hK _ α _ (fun _ _ => rfl) rfl (step_same (st9) hL hcl rfl rfl hG)
        · intro L9 α a9 u9 K9 hL hcl hA hG hS h0 hK
          replace hL : L9 9 = false := hL
          have q148 : a9.tmps[148]? = some (.pointer (some ⟨nd31, 0, none⟩)) := hS 8 148 (by decide) rfl (by show 148 < 178; decide)
          have s148 := Rega.eval_of q148
          have q141 : a9.tmps[141]? = some (.bool true) := hS 1 141 (by decide) rfl (by show 141 < 178; decide)
          have s141 := Rega.eval_of q141
          go_simp
          exact hK _ α _ (fun _ _ => rfl) rfl (step_same (st9) hL hcl rfl rfl hG)
        · intro L9 α a9 u9 K9 hL hcl hA hG hS h0 hK
          replace hL : L9 10 = false := hL
          have q149 : a9.tmps[149]? = some (.pointer (some ⟨nd31, 0, none⟩)) := hS 9 149 (by decide) rfl (by show 149 < 178; decide)
          have s149 := Rega.eval_of q149
          have q141 : a9.tmps[141]? = some (.bool true) := hS 1 141 (by decide) rfl (by show 141 < 178; decide)
          have s141 := Rega.eval_of q141
          go_simp
          exact hK _ α _ (fun _ _ => rfl) rfl (step_same (st9) hL hcl rfl rfl hG)
        · intro L9 α a9 u9 K9 hL hcl hA hG hS h0 hK
          replace hL : L9 11 = false := hL
          have q150 : a9.tmps[150]? = some (.pointer (some ⟨nd31, 2, none⟩)) := hS 10 150 (by decide) rfl (by show 150 < 178; decide)
          have s150 := Rega.eval_of q150
          have q141 : a9.tmps[141]? = some (.bool true) := hS 1 141 (by decide) rfl (by show 141 < 178; decide)
          have s141 := Rega.eval_of q141
          have e0 : rLri8R loc kl nd8 nd15 nd22 nd23 nd24 nd26 nd27 nd31 nd32 nd33 nd35 nd36 L9 α 999 = row (nd31) 56 #[.iface 220 (.pointer (some ⟨nd32, 0, none⟩)), .int .i32 loc, .slice (some ⟨nd33, 0, none⟩) 3 3, .int .i32 0, .int .u8 0, .int .u8 0, .bool false, .bool false] := rfl
          have hr := hG.rowAt 999 (act_base 999 rfl) e0
          have c0 : u9.cell? ⟨nd31, 2, none⟩ = some (.slice (some ⟨nd33, 0, none⟩) 3 3) := hr.cell rfl
          clear hr e0
          go_simp
          exact hK _ α _ (fun _ _ => rfl) rfl (step_same (st9) hL hcl rfl rfl hG)
        · intro L9 α a9 u9 K9 hL hcl hA hG hS h0 hK
          replace hL : L9 12 = false := hL
          have q151 : a9.tmps[151]? = some (.slice (some ⟨nd33, 0, none⟩) 3 3) := hS 11 151 (by decide) rfl (by show 151 < 178; decide)
          have s151 := Rega.eval_of q151
          have q141 : a9.tmps[141]? = some (.bool true) := hS 1 141 (by decide) rfl (by show 141 < 178; decide)
          have s141 := Rega.eval_of q141
          go_simp
          exact hK _ α _ (fun _ _ => rfl) rfl (step_same (st9) hL hcl rfl rfl hG)
        · intro L9 α a9 u9 K9 hL hcl hA hG hS h0 hK
          replace hL : L9 13 = false := hL
          have q152 : a9.tmps[152]? = some (.pointer (some ⟨nd33, 2, none⟩)) := hS 12 152 (by decide) rfl (by show 152 < 178; decide)
          have s152 := Rega.eval_of q152
          have q141 : a9.tmps[141]? = some (.bool true) := hS 1 141 (by decide) rfl (by show 141 < 178; decide)
          have s141 := Rega.eval_of q141
          have e0 : rLri8R loc kl nd8 nd15 nd22 nd23 nd24 nd26 nd27 nd31 nd32 nd33 nd35 nd36 L9 α 1999 = row (nd33) 30 #[.iface 40 (.pointer (some ⟨nd36, 0, none⟩)), .int .i32 loc, .iface 220 (.pointer (some ⟨nd35, 0, none⟩)), .int .i32 loc, .iface 50 (.pointer (some ⟨nd15, 0, none⟩)), .int .i32 kl] := rfl
          have hr := hG.rowAt 1999 (act_base 1999 rfl) e0
          have c0 : u9.cell? ⟨nd33, 2, none⟩ = some (.iface 220 (.pointer (some ⟨nd35, 0, none⟩))) := hr.cell rfl
          have c1 : u9.cell? ⟨nd33, 3, none⟩ = some (.int .i32 loc) := hr.cell rfl
          clear hr e0
          go_simp
          exact hK _ α _ (fun _ _ => rfl) rfl (step_same (st9) hL hcl rfl rfl hG)
        · intro L9 α a9 u9 K9 hL hcl hA hG hS h0 hK
          replace hL : L9 14 = false := hL
          have q147 : a9.tmps[147]? = some (.agg #[.iface 220 (.pointer (some ⟨nd26, 0, none⟩)), .int .i32 loc]) := hS 7 147 (by decide) rfl (by show 147 < 178; decide)
          have s147 := Rega.eval_of q147
          have q153 : a9.tmps[153]? = some (.agg #[.iface 220 (.pointer (some ⟨nd35, 0, none⟩)), .int .i32 loc]) := hS 13 153 (by decide) rfl (by show 153 < 178; decide)
          have s153 := Rega.eval_of q153
          have q141 : a9.tmps[141]? = some (.bool true) := hS 1 141 (by decide) rfl (by show 141 < 178; decide)
          have s141 := Rega.eval_of q141
          go_simp
          have e0 : rLri8R loc kl nd8 nd15 nd22 nd23 nd24 nd26 nd27 nd31 nd32 nd33 nd35 nd36 L9 α 5999 = row (nd26) 223 #[.int .u32 0, .int .u32 1, .bool false, .bool false, .bool false] := rfl
          have e1 : rLri8R loc kl nd8 nd15 nd22 nd23 nd24 nd26 nd27 nd31 nd32 nd33 nd35 nd36 L9 α 4999 = row (nd35) 223 #[.int .u32 0, .int .u32 1, .bool false, .bool false, .bool false] := rfl
          have hM : ∀ i, i ∈ [5999, 4999] → act rLri8Cnt 6 L9 i := by
            intro i hi
            simp only [List.mem_cons, List.not_mem_nil, or_false] at hi
            rcases hi with rfl | rfl
            · exact act_base 5999 rfl
            · exact act_base 4999 rfl
          have hP : Own w0 u9 [row (nd26) 223 #[.int .u32 0, .int .u32 1, .bool false, .bool false, .bool false], row (nd35) 223 #[.int .u32 0, .int .u32 1, .bool false, .bool false, .bool false]] _ := (hG.pick [5999, 4999] (by decide) hM).conv (by
            show [rLri8R loc kl nd8 nd15 nd22 nd23 nd24 nd26 nd27 nd31 nd32 nd33 nd35 nd36 L9 α 5999, rLri8R loc kl nd8 nd15 nd22 nd23 nd24 nd26 nd27 nd31 nd32 nd33 nd35 nd36 L9 α 4999] = _
            rw [e0, e1])
          clear e0 e1 hM
          refine Calls.mono (nodeI nd26 nd35 loc 0 1 _ _ _ hP ) ?_
          rintro e9 u1 ⟨rfl, hQ⟩
          obtain ⟨α', hα'⟩ : ∃ α' : Rega.Atoms, α' = α := ⟨_, rfl⟩
          have f0 : rLri8R loc kl nd8 nd15 nd22 nd23 nd24 nd26 nd27 nd31 nd32 nd33 nd35 nd36 (Rega.ran L9 14) α' 5999 = row (nd26) 223 #[.int .u32 0, .int .u32 1, .bool false, .bool false, .bool false] := rfl
          have f1 : rLri8R loc kl nd8 nd15 nd22 nd23 nd24 nd26 nd27 nd31 nd32 nd33 nd35 nd36 (Rega.ran L9 14) α' 4999 = row (nd35) 223 #[.int .u32 0, .int .u32 1, .bool false, .bool false, .bool false] := rfl
          have hα : ∀ j, j % 1000 ≠ 14 → α' j = α j := fun j hj => by rw [hα']
          skip
          refine hK _ α' _ hα ?_ (step_call (st9) hL hcl hα [5999, 4999] [5999, 4999] (by decide) (by decide) (by decide) (M := _) ?_ hG hQ)
          · rfl
          · show [rLri8R loc kl nd8 nd15 nd22 nd23 nd24 nd26 nd27 nd31 nd32 nd33 nd35 nd36 (Rega.ran L9 14) α' 5999, rLri8R loc kl nd8 nd15 nd22 nd23 nd24 nd26 nd27 nd31 nd32 nd33 nd35 nd36 (Rega.ran L9 14) α' 4999] = _
            rw [f0, f1]
        · intro L9 α a9 u9 K9 hL hcl hA hG hS h0 hK
          replace hL : L9 15 = false := hL
          have q141 : a9.tmps[141]? = some (.bool true) := hS 1 141 (by decide) rfl (by show 141 < 178; decide)
          have s141 := Rega.eval_of q141
          have q154 : a9.tmps[154]? = some (.bool false) := hS 14 154 (by decide) rfl (by show 154 < 178; decide)
          have s154 := Rega.eval_of q154
          go_simp
          exact hK _ α _ (fun _ _ => rfl) rfl (step_same (st9) hL hcl rfl rfl hG)
      · clear st9
        intro α u hG
        have e0 : rLri8R loc kl nd8 nd15 nd22 nd23 nd24 nd26 nd27 nd31 nd32 nd33 nd35 nd36 (fun k => decide (k < 16)) α 999 = row (nd31) 56 #[.iface 220 (.pointer (some ⟨nd32, 0, none⟩)), .int .i32 loc, .slice (some ⟨nd33, 0, none⟩) 3 3, .int .i32 0, .int .u8 0, .int .u8 0, .bool false, .bool false] := rfl
        have e1 : rLri8R loc kl nd8 nd15 nd22 nd23 nd24 nd26 nd27 nd31 nd32 nd33 nd35 nd36 (fun k => decide (k < 16)) α 1999 = row (nd33) 30 #[.iface 40 (.pointer (some ⟨nd36, 0, none⟩)), .int .i32 loc, .iface 220 (.pointer (some ⟨nd35, 0, none⟩)), .int .i32 loc, .iface 50 (.pointer (some ⟨nd15, 0, none⟩)), .int .i32 kl] := rfl
        have e2 : rLri8R loc kl nd8 nd15 nd22 nd23 nd24 nd26 nd27 nd31 nd32 nd33 nd35 nd36 (fun k => decide (k < 16)) α 2999 = row (nd22) 56 #[.iface 220 (.pointer (some ⟨nd23, 0, none⟩)), .int .i32 loc, .slice (some ⟨nd24, 0, none⟩) 3 3, .int .i32 0, .int .u8 0, .int .u8 0, .bool false, .bool false] := rfl
        have e3 : rLri8R loc kl nd8 nd15 nd22 nd23 nd24 nd26 nd27 nd31 nd32 nd33 nd35 nd36 (fun k => decide (k < 16)) α 3999 = row (nd24) 30 #[.iface 40 (.pointer (some ⟨nd27, 0, none⟩)), .int .i32 loc, .iface 220 (.pointer (some ⟨nd26, 0, none⟩)), .int .i32 loc, .iface 50 (.pointer (some ⟨nd8, 0, none⟩)), .int .i32 kl] := rfl
        have e4 : rLri8R loc kl nd8 nd15 nd22 nd23 nd24 nd26 nd27 nd31 nd32 nd33 nd35 nd36 (fun k => decide (k < 16)) α 4999 = row (nd35) 223 #[.int .u32 0, .int .u32 1, .bool false, .bool false, .bool false] := rfl
        have e5 : rLri8R loc kl nd8 nd15 nd22 nd23 nd24 nd26 nd27 nd31 nd32 nd33 nd35 nd36 (fun k => decide (k < 16)) α 5999 = row (nd26) 223 #[.int .u32 0, .int .u32 1, .bool false, .bool false, .bool false] := rfl
        have hO : Own w0 u [row (nd31) 56 #[.iface 220 (.pointer (some ⟨nd32, 0, none⟩)), .int .i32 loc, .slice (some ⟨nd33, 0, none⟩) 3 3, .int .i32 0, .int .u8 0, .int .u8 0, .bool false, .bool false], row (nd33) 30 #[.iface 40 (.pointer (some ⟨nd36, 0, none⟩)), .int .i32 loc, .iface 220 (.pointer (some ⟨nd35, 0, none⟩)), .int .i32 loc, .iface 50 (.pointer (some ⟨nd15, 0, none⟩)), .int .i32 kl], row (nd22) 56 #[.iface 220 (.pointer (some ⟨nd23, 0, none⟩)), .int .i32 loc, .slice (some ⟨nd24, 0, none⟩) 3 3, .int .i32 0, .int .u8 0, .int .u8 0, .bool false, .bool false], row (nd24) 30 #[.iface 40 (.pointer (some ⟨nd27, 0, none⟩)), .int .i32 loc, .iface 220 (.pointer (some ⟨nd26, 0, none⟩)), .int .i32 loc, .iface 50 (.pointer (some ⟨nd8, 0, none⟩)), .int .i32 kl], row (nd35) 223 #[.int .u32 0, .int .u32 1, .bool false, .bool false, .bool false], row (nd26) 223 #[.int .u32 0, .int .u32 1, .bool false, .bool false, .bool false]] X9_41 := (hG.list [999, 1999, 2999, 3999, 4999, 5999] (by decide) (act_all (by decide))).conv (by
          show [rLri8R loc kl nd8 nd15 nd22 nd23 nd24 nd26 nd27 nd31 nd32 nd33 nd35 nd36 (fun k => decide (k < 16)) α 999, rLri8R loc kl nd8 nd15 nd22 nd23 nd24 nd26 nd27 nd31 nd32 nd33 nd35 nd36 (fun k => decide (k < 16)) α 1999, rLri8R loc kl nd8 nd15 nd22 nd23 nd24 nd26 nd27 nd31 nd32 nd33 nd35 nd36 (fun k => decide (k < 16)) α 2999, rLri8R loc kl nd8 nd15 nd22 nd23 nd24 nd26 nd27 nd31 nd32 nd33 nd35 nd36 (fun k => decide (k < 16)) α 3999, rLri8R loc kl nd8 nd15 nd22 nd23 nd24 nd26 nd27 nd31 nd32 nd33 nd35 nd36 (fun k => decide (k < 16)) α 4999, rLri8R loc kl nd8 nd15 nd22 nd23 nd24 nd26 nd27 nd31 nd32 nd33 nd35 nd36 (fun k => decide (k < 16)) α 5999] = _
          rw [e0, e1, e2, e3, e4, e5])
        clear hG e0 e1 e2 e3 e4 e5
        generalize hfr : Rega.frameAt _ _ _ _ _ = fr
        have hdf : fr = ⟨#[.bool true, .bool false, .int .i32 loc, .int .i32 kl, .string nm, undef, undef, undef, undef, undef, .bool false, .pointer (some ⟨nd2, 0, none⟩), .pointer (some ⟨B12, 0, none⟩), .pointer (some ⟨B19, 0, none⟩), .pointer (some ⟨B28, 0, none⟩), .pointer (some ⟨B37, 0, none⟩), .pointer (some ⟨nd22, 0, none⟩), .pointer (some ⟨nd31, 0, none⟩), .bool true, .bool false, .int .i32 loc, .int .i32 kl, .string nm, .bool true, .bool false, .string nm, .int .i64 (nm.size : Int), .bool (decide (65536 < (nm.size : Int))), .bool true, .bool false, .pointer (some ⟨nd2, 0, none⟩), .int .i32 kl, .string nm, .agg #[.iface 50 (.pointer (some ⟨nd8, 0, none⟩)), .int .i32 kl], .int .i32 kl, .string nm, .agg #[.iface 50 (.pointer (some ⟨nd15, 0, none⟩)), .int .i32 kl], .pointer (some ⟨nd2, 0, none⟩), .int .i32 loc, .agg #[.iface 50 (.pointer (some ⟨nd8, 0, none⟩)), .int .i32 kl], .agg #[.iface 52 (.pointer (some ⟨nd22, 0, none⟩)), .int .i32 loc], .pointer (some ⟨nd2, 0, none⟩), .int .i32 loc, .agg #[.iface 50 (.pointer (some ⟨nd15, 0, none⟩)), .int .i32 kl], .agg #[.iface 52 (.pointer (some ⟨nd31, 0, none⟩)), .int .i32 loc], .agg #[.iface 52 (.pointer (some ⟨nd22, 0, none⟩)), .int .i32 loc], .pointer (some ⟨nd22, 0, none⟩), .agg #[.iface 52 (.pointer (some ⟨nd31, 0, none⟩)), .int .i32 loc], .pointer (some ⟨nd31, 0, none⟩), .pointer (some ⟨nd22, 0, none⟩), .bool false, .bool false, .pointer (some ⟨nd31, 0, none⟩), .bool false, .bool false, .bool false, .pointer (some ⟨nd22, 0, none⟩), .pointer (some ⟨nd31, 0, none⟩), .bool false, .bool false, .pointer (some ⟨nd22, 0, none⟩), .pointer (some ⟨nd22, 0, none⟩), .pointer (some ⟨nd22, 2, none⟩), .slice (some ⟨nd24, 0, none⟩) 3 3, .int .i64 3, .bool false, .bool false, .pointer (some ⟨nd31, 0, none⟩), .pointer (some ⟨nd31, 0, none⟩), .pointer (some ⟨nd31, 2, none⟩), .slice (some ⟨nd33, 0, none⟩) 3 3, .int .i64 3, .bool false, .bool false, .pointer (some ⟨nd22, 0, none⟩), .pointer (some ⟨nd22, 0, none⟩), .pointer (some ⟨nd22, 0, none⟩), .agg #[.iface 220 (.pointer (some ⟨nd23, 0, none⟩)), .int .i32 loc], .pointer (some ⟨nd31, 0, none⟩), .pointer (some ⟨nd31, 0, none⟩), .pointer (some ⟨nd31, 0, none⟩), .agg #[.iface 220 (.pointer (some ⟨nd32, 0, none⟩)), .int .i32 loc], .bool true, .bool false, .bool false, .pointer (some ⟨nd22, 0, none⟩), .pointer (some ⟨nd22, 0, none⟩), .pointer (some ⟨nd22, 2, none⟩), .slice (some ⟨nd24, 0, none⟩) 3 3, .pointer (some ⟨nd24, 0, none⟩), .agg #[.iface 40 (.pointer (some ⟨nd27, 0, none⟩)), .int .i32 loc], .pointer (some ⟨nd31, 0, none⟩), .pointer (some ⟨nd31, 0, none⟩), .pointer (some ⟨nd31, 2, none⟩), .slice (some ⟨nd33, 0, none⟩) 3 3, .pointer (some ⟨nd33, 0, none⟩), .agg #[.iface 40 (.pointer (some ⟨nd36, 0, none⟩)), .int .i32 loc], .bool true, .bool false, .bool false, .bool false, .pointer (some ⟨nd22, 0, none⟩), .pointer (some ⟨nd22, 0, none⟩), .pointer (some ⟨nd22, 2, none⟩), .slice (some ⟨nd24, 0, none⟩) 3 3, .pointer (some ⟨nd24, 2, none⟩), .agg #[.iface 220 (.pointer (some ⟨nd26, 0, none⟩)), .int .i32 loc], .pointer (some ⟨nd31, 0, none⟩), .pointer (some ⟨nd31, 0, none⟩), .pointer (some ⟨nd31, 2, none⟩), .slice (some ⟨nd33, 0, none⟩) 3 3, .pointer (some ⟨nd33, 2, none⟩), .agg #[.iface 220 (.pointer (some ⟨nd35, 0, none⟩)), .int .i32 loc], .bool true, .bool false, .bool false, .pointer (some ⟨nd22, 0, none⟩), .pointer (some ⟨nd22, 0, none⟩), .pointer (some ⟨nd22, 0, none⟩), .agg #[.iface 220 (.pointer (some ⟨nd23, 0, none⟩)), .int .i32 loc], .pointer (some ⟨nd31, 0, none⟩), .pointer (some ⟨nd31, 0, none⟩), .pointer (some ⟨nd31, 0, none⟩), .agg #[.iface 220 (.pointer (some ⟨nd32, 0, none⟩)), .int .i32 loc], .bool false, .bool false, .pointer (some ⟨nd22, 0, none⟩), .pointer (some ⟨nd22, 0, none⟩), .pointer (some ⟨nd22, 2, none⟩), .slice (some ⟨nd24, 0, none⟩) 3 3, .pointer (some ⟨nd24, 0, none⟩), .agg #[.iface 40 (.pointer (some ⟨nd27, 0, none⟩)), .int .i32 loc], .pointer (some ⟨nd31, 0, none⟩), .pointer (some ⟨nd31, 0, none⟩), .pointer (some ⟨nd31, 2, none⟩), .slice (some ⟨nd33, 0, none⟩) 3 3, .pointer (some ⟨nd33, 0, none⟩), .agg #[.iface 40 (.pointer (some ⟨nd36, 0, none⟩)), .int .i32 loc], .bool false, .bool false, .bool true, .bool true, .pointer (some ⟨nd22, 0, none⟩), .pointer (some ⟨nd22, 0, none⟩), .pointer (some ⟨nd22, 2, none⟩), .slice (some ⟨nd24, 0, none⟩) 3 3, .pointer (some ⟨nd24, 2, none⟩), .agg #[.iface 220 (.pointer (some ⟨nd26, 0, none⟩)), .int .i32 loc], .pointer (some ⟨nd31, 0, none⟩), .pointer (some ⟨nd31, 0, none⟩), .pointer (some ⟨nd31, 2, none⟩), .slice (some ⟨nd33, 0, none⟩) 3 3, .pointer (some ⟨nd33, 2, none⟩), .agg #[.iface 220 (.pointer (some ⟨nd35, 0, none⟩)), .int .i32 loc], .bool false, .bool false, undef, undef, undef, undef, undef, undef, undef, undef, undef, undef, undef, undef, undef, undef, undef, undef, undef, undef, undef, undef, undef, undef], []⟩ := by rw [← hfr]; kernel_rfl
        clear hfr
        subst hdf
        clear α
        subst hX9_41
        have hN : Own w0 u [row (nd31) 56 #[.iface 220 (.pointer (some ⟨nd32, 0, none⟩)), .int .i32 loc, .slice (some ⟨nd33, 0, none⟩) 3 3, .int .i32 0, .int .u8 0, .int .u8 0, .bool false, .bool false], row (nd33) 30 #[.iface 40 (.pointer (some ⟨nd36, 0, none⟩)), .int .i32 loc, .iface 220 (.pointer (some ⟨nd35, 0, none⟩)), .int .i32 loc, .iface 50 (.pointer (some ⟨nd15, 0, none⟩)), .int .i32 kl], row (nd22) 56 #[.iface 220 (.pointer (some ⟨nd23, 0, none⟩)), .int .i32 loc, .slice (some ⟨nd24, 0, none⟩) 3 3, .int .i32 0, .int .u8 0, .int .u8 0, .bool false, .bool false], row (nd24) 30 #[.iface 40 (.pointer (some ⟨nd27, 0, none⟩)), .int .i32 loc, .iface 220 (.pointer (some ⟨nd26, 0, none⟩)), .int .i32 loc, .iface 50 (.pointer (some ⟨nd8, 0, none⟩)), .int .i32 kl], row (nd35) 223 #[.int .u32 0, .int .u32 1, .bool false, .bool false, .bool false], row (nd26) 223 #[.int .u32 0, .int .u32 1, .bool false, .bool false, .bool false], row (nd32) 223 #[.int .u32 0, .int .u32 3, .bool false, .bool false, .bool false], row (nd34) 223 #[.int .u32 0, .int .u32 1, .bool false, .bool false, .bool false], row (nd36) 44 #[.iface 220 (.pointer (some ⟨nd34, 0, none⟩)), .int .i32 loc, .string ⟨#[112, 114, 111, 116, 111, 116, 121, 112, 101]⟩, .int .i32 loc, .int .u8 0, .bool false, .bool false, .bool false], row (nd23) 223 #[.int .u32 0, .int .u32 3, .bool false, .bool false, .bool false], row (nd25) 223 #[.int .u32 0, .int .u32 1, .bool false, .bool false, .bool false], row (nd27) 44 #[.iface 220 (.pointer (some ⟨nd25, 0, none⟩)), .int .i32 loc, .string ⟨#[112, 114, 111, 116, 111, 116, 121, 112, 101]⟩, .int .i32 loc, .int .u8 0, .bool false, .bool false, .bool false], row (B37) 30 #[.iface 52 (.pointer (some ⟨nd31, 0, none⟩)), .int .i32 loc], row (B28) 30 #[.iface 52 (.pointer (some ⟨nd22, 0, none⟩)), .int .i32 loc], row (B19) 30 #[.iface 50 (.pointer (some ⟨nd15, 0, none⟩)), .int .i32 kl], row (nd15) 214 #[.slice (some ⟨nd16, 0, none⟩) nd17 nd18, .int .i32 0, .bool false, .bool false, .bool false], row (B12) 30 #[.iface 50 (.pointer (some ⟨nd8, 0, none⟩)), .int .i32 kl], row (nd8) 214 #[.slice (some ⟨nd9, 0, none⟩) nd10 nd11, .int .i32 0, .bool false, .bool false, .bool false]] X := hO.back HL.out HX.out [0, 3, 4, 5, 8, 9, 12, 13, 14, 15, 16, 17] (by decide) (by decide)
        clear hO HL HX
        have hO := hN
        clear hN
        have ne9_0_2 : ¬ nd31 = nd22 := hO.ne 0 2 rfl rfl (by decide)
        have ne9_1_3 : ¬ nd33 = nd24 := hO.ne 1 3 rfl rfl (by decide)
        have ne9_1_12 : ¬ nd33 = B37 := hO.ne 1 12 rfl rfl (by decide)
        have ne9_1_13 : ¬ nd33 = B28 := hO.ne 1 13 rfl rfl (by decide)
        have ne9_1_14 : ¬ nd33 = B19 := hO.ne 1 14 rfl rfl (by decide)
        have ne9_1_16 : ¬ nd33 = B12 := hO.ne 1 16 rfl rfl (by decide)
        have ne9_2_0 : ¬ nd22 = nd31 := hO.ne 2 0 rfl rfl (by decide)
        have ne9_3_1 : ¬ nd24 = nd33 := hO.ne 3 1 rfl rfl (by decide)
        have ne9_3_12 : ¬ nd24 = B37 := hO.ne 3 12 rfl rfl (by decide)
        have ne9_3_13 : ¬ nd24 = B28 := hO.ne 3 13 rfl rfl (by decide)
        have ne9_3_14 : ¬ nd24 = B19 := hO.ne 3 14 rfl rfl (by decide)
        have ne9_3_16 : ¬ nd24 = B12 := hO.ne 3 16 rfl rfl (by decide)
        have ne9_4_5 : ¬ nd35 = nd26 := hO.ne 4 5 rfl rfl (by decide)
        have ne9_4_6 : ¬ nd35 = nd32 := hO.ne 4 6 rfl rfl (by decide)
        have ne9_4_7 : ¬ nd35 = nd34 := hO.ne 4 7 rfl rfl (by decide)
        have ne9_4_9 : ¬ nd35 = nd23 := hO.ne 4 9 rfl rfl (by decide)
        have ne9_4_10 : ¬ nd35 = nd25 := hO.ne 4 10 rfl rfl (by decide)
        have ne9_5_4 : ¬ nd26 = nd35 := hO.ne 5 4 rfl rfl (by decide)
        have ne9_5_6 : ¬ nd26 = nd32 := hO.ne 5 6 rfl rfl (by decide)
        have ne9_5_7 : ¬ nd26 = nd34 := hO.ne 5 7 rfl rfl (by decide)
        have ne9_5_9 : ¬ nd26 = nd23 := hO.ne 5 9 rfl rfl (by decide)
        have ne9_5_10 : ¬ nd26 = nd25 := hO.ne 5 10 rfl rfl (by decide)
        have ne9_6_4 : ¬ nd32 = nd35 := hO.ne 6 4 rfl rfl (by decide)
        have ne9_6_5 : ¬ nd32 = nd26 := hO.ne 6 5 rfl rfl (by decide)
        have ne9_6_7 : ¬ nd32 = nd34 := hO.ne 6 7 rfl rfl (by decide)
        have ne9_6_9 : ¬ nd32 = nd23 := hO.ne 6 9 rfl rfl (by decide)
        have ne9_6_10 : ¬ nd32 = nd25 := hO.ne 6 10 rfl rfl (by decide)
        have ne9_7_4 : ¬ nd34 = nd35 := hO.ne 7 4 rfl rfl (by decide)
        have ne9_7_5 : ¬ nd34 = nd26 := hO.ne 7 5 rfl rfl (by decide)
        have ne9_7_6 : ¬ nd34 = nd32 := hO.ne 7 6 rfl rfl (by decide)
        have ne9_7_9 : ¬ nd34 = nd23 := hO.ne 7 9 rfl rfl (by decide)
        have ne9_7_10 : ¬ nd34 = nd25 := hO.ne 7 10 rfl rfl (by decide)
        have ne9_8_11 : ¬ nd36 = nd27 := hO.ne 8 11 rfl rfl (by decide)
        have ne9_9_4 : ¬ nd23 = nd35 := hO.ne 9 4 rfl rfl (by decide)
        have ne9_9_5 : ¬ nd23 = nd26 := hO.ne 9 5 rfl rfl (by decide)
        have ne9_9_6 : ¬ nd23 = nd32 := hO.ne 9 6 rfl rfl (by decide)
        have ne9_9_7 : ¬ nd23 = nd34 := hO.ne 9 7 rfl rfl (by decide)
        have ne9_9_10 : ¬ nd23 = nd25 := hO.ne 9 10 rfl rfl (by decide)
        have ne9_10_4 : ¬ nd25 = nd35 := hO.ne 10 4 rfl rfl (by decide)
        have ne9_10_5 : ¬ nd25 = nd26 := hO.ne 10 5 rfl rfl (by decide)
        have ne9_10_6 : ¬ nd25 = nd32 := hO.ne 10 6 rfl rfl (by decide)
        have ne9_10_7 : ¬ nd25 = nd34 := hO.ne 10 7 rfl rfl (by decide)
        have ne9_10_9 : ¬ nd25 = nd23 := hO.ne 10 9 rfl rfl (by decide)
        have ne9_11_8 : ¬ nd27 = nd36 := hO.ne 11 8 rfl rfl (by decide)
        have ne9_12_1 : ¬ B37 = nd33 := hO.ne 12 1 rfl rfl (by decide)
        have ne9_12_3 : ¬ B37 = nd24 := hO.ne 12 3 rfl rfl (by decide)
        have ne9_12_13 : ¬ B37 = B28 := hO.ne 12 13 rfl rfl (by decide)
        have ne9_12_14 : ¬ B37 = B19 := hO.ne 12 14 rfl rfl (by decide)
        have ne9_12_16 : ¬ B37 = B12 := hO.ne 12 16 rfl rfl (by decide)
        have ne9_13_1 : ¬ B28 = nd33 := hO.ne 13 1 rfl rfl (by decide)
        have ne9_13_3 : ¬ B28 = nd24 := hO.ne 13 3 rfl rfl (by decide)
        have ne9_13_12 : ¬ B28 = B37 := hO.ne 13 12 rfl rfl (by decide)
        have ne9_13_14 : ¬ B28 = B19 := hO.ne 13 14 rfl rfl (by decide)
        have ne9_13_16 : ¬ B28 = B12 := hO.ne 13 16 rfl rfl (by decide)
        have ne9_14_1 : ¬ B19 = nd33 := hO.ne 14 1 rfl rfl (by decide)
        have ne9_14_3 : ¬ B19 = nd24 := hO.ne 14 3 rfl rfl (by decide)
        have ne9_14_12 : ¬ B19 = B37 := hO.ne 14 12 rfl rfl (by decide)
        have ne9_14_13 : ¬ B19 = B28 := hO.ne 14 13 rfl rfl (by decide)
        have ne9_14_16 : ¬ B19 = B12 := hO.ne 14 16 rfl rfl (by decide)
        have ne9_15_17 : ¬ nd15 = nd8 := hO.ne 15 17 rfl rfl (by decide)
        have ne9_16_1 : ¬ B12 = nd33 := hO.ne 16 1 rfl rfl (by decide)
        have ne9_16_3 : ¬ B12 = nd24 := hO.ne 16 3 rfl rfl (by decide)
        have ne9_16_12 : ¬ B12 = B37 := hO.ne 16 12 rfl rfl (by decide)
        have ne9_16_13 : ¬ B12 = B28 := hO.ne 16 13 rfl rfl (by decide)
        have ne9_16_14 : ¬ B12 = B19 := hO.ne 16 14 rfl rfl (by decide)
        have ne9_17_15 : ¬ nd8 = nd15 := hO.ne 17 15 rfl rfl (by decide)
        obtain ⟨c9_0_0, c9_0_1, c9_0_2, c9_0_3, c9_0_4, c9_0_5, c9_0_6, c9_0_7, lt9_0, y9_0, pl9_0⟩ := hO.k8 0 rfl
        obtain ⟨c9_1_0, c9_1_1, c9_1_2, c9_1_3, c9_1_4, c9_1_5, lt9_1, y9_1, pl9_1⟩ := hO.k6 1 rfl
        obtain ⟨c9_2_0, c9_2_1, c9_2_2, c9_2_3, c9_2_4, c9_2_5, c9_2_6, c9_2_7, lt9_2, y9_2, pl9_2⟩ := hO.k8 2 rfl
        obtain ⟨c9_3_0, c9_3_1, c9_3_2, c9_3_3, c9_3_4, c9_3_5, lt9_3, y9_3, pl9_3⟩ := hO.k6 3 rfl
        obtain ⟨c9_4_0, c9_4_1, c9_4_2, c9_4_3, c9_4_4, lt9_4, y9_4, pl9_4⟩ := hO.k5 4 rfl
        obtain ⟨c9_5_0, c9_5_1, c9_5_2, c9_5_3, c9_5_4, lt9_5, y9_5, pl9_5⟩ := hO.k5 5 rfl
        obtain ⟨c9_6_0, c9_6_1, c9_6_2, c9_6_3, c9_6_4, lt9_6, y9_6, pl9_6⟩ := hO.k5 6 rfl
        obtain ⟨c9_7_0, c9_7_1, c9_7_2, c9_7_3, c9_7_4, lt9_7, y9_7, pl9_7⟩ := hO.k5 7 rfl
        obtain ⟨c9_8_0, c9_8_1, c9_8_2, c9_8_3, c9_8_4, c9_8_5, c9_8_6, c9_8_7, lt9_8, y9_8, pl9_8⟩ := hO.k8 8 rfl
        obtain ⟨c9_9_0, c9_9_1, c9_9_2, c9_9_3, c9_9_4, lt9_9, y9_9, pl9_9⟩ := hO.k5 9 rfl
        obtain ⟨c9_10_0, c9_10_1, c9_10_2, c9_10_3, c9_10_4, lt9_10, y9_10, pl9_10⟩ := hO.k5 10 rfl
        obtain ⟨c9_11_0, c9_11_1, c9_11_2, c9_11_3, c9_11_4, c9_11_5, c9_11_6, c9_11_7, lt9_11, y9_11, pl9_11⟩ := hO.k8 11 rfl
        obtain ⟨c9_12_0, c9_12_1, lt9_12, y9_12, pl9_12⟩ := hO.k2 12 rfl
        obtain ⟨c9_13_0, c9_13_1, lt9_13, y9_13, pl9_13⟩ := hO.k2 13 rfl
        obtain ⟨c9_14_0, c9_14_1, lt9_14, y9_14, pl9_14⟩ := hO.k2 14 rfl
        obtain ⟨c9_15_0, c9_15_1, c9_15_2, c9_15_3, c9_15_4, lt9_15, y9_15, pl9_15⟩ := hO.k5 15 rfl
        obtain ⟨c9_16_0, c9_16_1, lt9_16, y9_16, pl9_16⟩ := hO.k2 16 rfl
        obtain ⟨c9_17_0, c9_17_1, c9_17_2, c9_17_3, c9_17_4, lt9_17, y9_17, pl9_17⟩ := hO.k5 17 rfl
        have HO := Lib.hid hO
        clear hO
        go_wp2_with (first | (go_at_call 39; go_in) | (go_at_call 40; go_in) | (go_at_call 18; go_in) | (go_at_call 23; go_in) | (go_at_call 21; go_in) | (go_at_call 41; go_in) | (go_at_call 42; go_in) | (go_at_call 28; go_in) | (go_at_call 43; go_in) | (go_at_call 22; go_in))
        have hO := HO.out
        clear HO ne9_0_2 ne9_1_3 ne9_1_12 ne9_1_13 ne9_1_14 ne9_1_16 ne9_2_0 ne9_3_1 ne9_3_12 ne9_3_13 ne9_3_14 ne9_3_16 ne9_4_5 ne9_4_6 ne9_4_7 ne9_4_9 ne9_4_10 ne9_5_4 ne9_5_6 ne9_5_7 ne9_5_9 ne9_5_10 ne9_6_4 ne9_6_5 ne9_6_7 ne9_6_9 ne9_6_10 ne9_7_4 ne9_7_5 ne9_7_6 ne9_7_9 ne9_7_10 ne9_8_11 ne9_9_4 ne9_9_5 ne9_9_6 ne9_9_7 ne9_9_10 ne9_10_4 ne9_10_5 ne9_10_6 ne9_10_7 ne9_10_9 ne9_11_8 ne9_12_1 ne9_12_3 ne9_12_13 ne9_12_14 ne9_12_16 ne9_13_1 ne9_13_3 ne9_13_12 ne9_13_14 ne9_13_16 ne9_14_1 ne9_14_3 ne9_14_12 ne9_14_13 ne9_14_16 ne9_15_17 ne9_16_1 ne9_16_3 ne9_16_12 ne9_16_13 ne9_16_14 ne9_17_15 c9_0_0 c9_0_1 c9_0_2 c9_0_3 c9_0_4 c9_0_5 c9_0_6 c9_0_7 lt9_0 y9_0 pl9_0 c9_1_0 c9_1_1 c9_1_2 c9_1_3 c9_1_4 c9_1_5 lt9_1 y9_1 pl9_1 c9_2_0 c9_2_1 c9_2_2 c9_2_3 c9_2_4 c9_2_5 c9_2_6 c9_2_7 lt9_2 y9_2 pl9_2 c9_3_0 c9_3_1 c9_3_2 c9_3_3 c9_3_4 c9_3_5 lt9_3 y9_3 pl9_3 c9_4_0 c9_4_1 c9_4_2 c9_4_3 c9_4_4 lt9_4 y9_4 pl9_4 c9_5_0 c9_5_1 c9_5_2 c9_5_3 c9_5_4 lt9_5 y9_5 pl9_5 c9_6_0 c9_6_1 c9_6_2 c9_6_3 c9_6_4 lt9_6 y9_6 pl9_6 c9_7_0 c9_7_1 c9_7_2 c9_7_3 c9_7_4 lt9_7 y9_7 pl9_7 c9_8_0 c9_8_1 c9_8_2 c9_8_3 c9_8_4 c9_8_5 c9_8_6 c9_8_7 lt9_8 y9_8 pl9_8 c9_9_0 c9_9_1 c9_9_2 c9_9_3 c9_9_4 lt9_9 y9_9 pl9_9 c9_10_0 c9_10_1 c9_10_2 c9_10_3 c9_10_4 lt9_10 y9_10 pl9_10 c9_11_0 c9_11_1 c9_11_2 c9_11_3 c9_11_4 c9_11_5 c9_11_6 c9_11_7 lt9_11 y9_11 pl9_11 c9_12_0 c9_12_1 lt9_12 y9_12 pl9_12 c9_13_0 c9_13_1 lt9_13 y9_13 pl9_13 c9_14_0 c9_14_1 lt9_14 y9_14 pl9_14 c9_15_0 c9_15_1 c9_15_2 c9_15_3 c9_15_4 lt9_15 y9_15 pl9_15 c9_16_0 c9_16_1 lt9_16 y9_16 pl9_16 c9_17_0 c9_17_1 c9_17_2 c9_17_3 c9_17_4 lt9_17 y9_17 pl9_17
        have hL := hO.apart
        have hX := hO.apartX
        have HL := Lib.hid hL
        have HX := Lib.hid hX
        clear hL hX
        have hP9 := hO.pick [0, 1, 2, 3, 14, 16] (by decide)
        generalize hX9_42 : Own.Rest _ _ X = X9_42 at hP9
        replace hP9 : Own w0 u [row (nd31) 56 #[.iface 220 (.pointer (some ⟨nd32, 0, none⟩)), .int .i32 loc, .slice (some ⟨nd33, 0, none⟩) 3 3, .int .i32 0, .int .u8 0, .int .u8 0, .bool false, .bool false], row (nd33) 30 #[.iface 40 (.pointer (some ⟨nd36, 0, none⟩)), .int .i32 loc, .iface 220 (.pointer (some ⟨nd35, 0, none⟩)), .int .i32 loc, .iface 50 (.pointer (some ⟨nd15, 0, none⟩)), .int .i32 kl], row (nd22) 56 #[.iface 220 (.pointer (some ⟨nd23, 0, none⟩)), .int .i32 loc, .slice (some ⟨nd24, 0, none⟩) 3 3, .int .i32 0, .int .u8 0, .int .u8 0, .bool false, .bool false], row (nd24) 30 #[.iface 40 (.pointer (some ⟨nd27, 0, none⟩)), .int .i32 loc, .iface 220 (.pointer (some ⟨nd26, 0, none⟩)), .int .i32 loc, .iface 50 (.pointer (some ⟨nd8, 0, none⟩)), .int .i32 kl], row (B19) 30 #[.iface 50 (.pointer (some ⟨nd15, 0, none⟩)), .int .i32 kl], row (B12) 30 #[.iface 50 (.pointer (some ⟨nd8, 0, none⟩)), .int .i32 kl]] X9_42 := hP9
        clear hO
        have hO := hP9
        clear hP9
        have st9 := rLri9_st loc kl nd8 B12 nd15 B19 nd22 nd23 nd24 nd26 nd27 nd31 nd32 nd33 nd35 nd36
        refine wp_region_own (e := rLri9E loc kl nd8 B12 nd15 B19 nd22 nd23 nd24 nd26 nd27 nd31 nd32 nd33 nd35 nd36) (anc := rLri9Anc) (G := (fun L9 α u9 => OwnF w0 u9 (act rLri9Cnt 6 L9) (rLri9R loc kl nd8 B12 nd15 B19 nd22 nd23 nd24 nd26 nd27 nd31 nd32 nd33 nd35 nd36 L9 α) X9_42)) (by kernel_rfl) (by kernel_rfl) (by kernel_rfl) (by kernel_rfl) (rLri9_he loc kl nd8 B12 nd15 B19 nd22 nd23 nd24 nd26 nd27 nd31 nd32 nd33 nd35 nd36) ?_ (RunsAll.all ?_) ?_
        · have hp : ∀ i, act rLri9Cnt 6 (fun _ => false) i → i ∈ [999, 1999, 2999, 3999, 4999, 5999] := by
            intro i hi
            have h9 : i % 1000 = 999 := by
              by_cases h : i % 1000 = 999
              · exact h
              · exact absurd (act_lt hi h) (by simp)
            unfold act at hi
            rw [if_pos h9] at hi
            simp only [List.mem_cons, List.not_mem_nil, or_false]
            omega
          refine hO.drew.family (fun i hi => ?_) (fun i j hi hj hij => ?_)
          · have := hp i hi
            simp only [List.mem_cons, List.not_mem_nil, or_false] at this
            rcases this with rfl | rfl | rfl | rfl | rfl | rfl <;> rfl
          · have h1 := hp i hi
            have h2 := hp j hj
            simp only [List.mem_cons, List.not_mem_nil, or_false] at h1 h2
            omega
        · refine ⟨?_, ?_, ?_, ?_, ?_, ?_, ?_, ?_, ?_, ?_, ?_, ?_, ?_, ?_, ?_, ?_, ?_, ?_, ?_, ?_, ?_, ?_, ?_, trivial⟩
          · intro L9 α a9 u9 K9 hL hcl hA hG hS h0 hK
            replace hL : L9 0 = false := hL
            have q16 : a9.tmps[16]? = some (.pointer (some ⟨nd22, 0, none⟩)) := (h0 16 (by kernel_rfl)).trans rfl
            have s16 := Rega.eval_of q16
            go_simp
            exact hK _ α _ (fun _ _ => rfl) rfl (step_same (st9) hL hcl rfl rfl hG)
          · intro L9 α a9 u9 K9 hL hcl hA hG hS h0 hK
            replace hL : L9 1 = false := hL
            have q156 : a9.tmps[156]? = some (.pointer (some ⟨nd22, 0, none⟩)) := hS 0 156 (by decide) rfl (by show 156 < 178; decide)
            have s156 := Rega.eval_of q156
            go_simp
            exact hK _ α _ (fun _ _ => rfl) rfl (step_same (st9) hL hcl rfl rfl hG)
          · intro L9 α a9 u9 K9 hL hcl hA hG hS h0 hK
            replace hL : L9 2 = false := hL
            have q157 : a9.tmps[157]? = some (.pointer (some ⟨nd22, 0, none⟩)) := hS 1 157 (by decide) rfl (by show 157 < 178; decide)
            have s157 := Rega.eval_of q157
            go_simp
            exact hK _ α _ (fun _ _ => rfl) rfl (step_same (st9) hL hcl rfl rfl hG)
          · intro L9 α a9 u9 K9 hL hcl hA hG hS h0 hK
            replace hL : L9 3 = false := hL
            have q158 : a9.tmps[158]? = some (.pointer (some ⟨nd22, 2, none⟩)) := hS 2 158 (by decide) rfl (by show 158 < 178; decide)
            have s158 := Rega.eval_of q158
            have e0 : rLri9R loc kl nd8 B12 nd15 B19 nd22 nd23 nd24 nd26 nd27 nd31 nd32 nd33 nd35 nd36 L9 α 2999 = row (nd22) 56 #[.iface 220 (.pointer (some ⟨nd23, 0, none⟩)), .int .i32 loc, .slice (some ⟨nd24, 0, none⟩) 3 3, .int .i32 0, .int .u8 0, .int .u8 0, .bool false, .bool false] := rfl
            have hr := hG.rowAt 2999 (act_base 2999 rfl) e0
            have c0 : u9.cell? ⟨nd22, 2, none⟩ = some (.slice (some ⟨nd24, 0, none⟩) 3 3) := hr.cell rfl
            clear hr e0
            go_simp
            exact hK _ α _ (fun _ _ => rfl) rfl (step_same (st9) hL hcl rfl rfl hG)
          · intro L9 α a9 u9 K9 hL hcl hA hG hS h0 hK
            replace hL : L9 4 = false := hL
            have q159 : a9.tmps[159]? = some (.slice (some ⟨nd24, 0, none⟩) 3 3) := hS 3 159 (by decide) rfl (by show 159 < 178; decide)
            have s159 := Rega.eval_of q159
            go_simp
            exact hK _ α _ (fun _ _ => rfl) rfl (step_same (st9) hL hcl rfl rfl hG)
          · intro L9 α a9 u9 K9 hL hcl hA hG hS h0 hK
            replace hL : L9 5 = false := hL
            have q160 : a9.tmps[160]? = some (.pointer (some ⟨nd24, 4, none⟩)) := hS 4 160 (by decide) rfl (by show 160 < 178; decide)
            have s160 := Rega.eval_of q160
            have e0 : rLri9R loc kl nd8 B12 nd15 B19 nd22 nd23 nd24 nd26 nd27 nd31 nd32 nd33 nd35 nd36 L9 α 3999 = row (nd24) 30 #[.iface 40 (.pointer (some ⟨nd27, 0, none⟩)), .int .i32 loc, .iface 220 (.pointer (some ⟨nd26, 0, none⟩)), .int .i32 loc, .iface 50 (.pointer (some ⟨nd8, 0, none⟩)), .int .i32 kl] := rfl
            have hr := hG.rowAt 3999 (act_base 3999 rfl) e0
            have c0 : u9.cell? ⟨nd24, 4, none⟩ = some (.iface 50 (.pointer (some ⟨nd8, 0, none⟩))) := hr.cell rfl
            have c1 : u9.cell? ⟨nd24, 5, none⟩ = some (.int .i32 kl) := hr.cell rfl
            clear hr e0
            go_simp
            exact hK _ α _ (fun _ _ => rfl) rfl (step_same (st9) hL hcl rfl rfl hG)
          · intro L9 α a9 u9 K9 hL hcl hA hG hS h0 hK
            replace hL : L9 6 = false := hL
            have q161 : a9.tmps[161]? = some (.agg #[.iface 50 (.pointer (some ⟨nd8, 0, none⟩)), .int .i32 kl]) := hS 5 161 (by decide) rfl (by show 161 < 178; decide)
            have s161 := Rega.eval_of q161
            go_simp
            have hM : ∀ i, i ∈ [] → act rLri9Cnt 6 L9 i := by intro i hi; simp at hi
            have hP : Own w0 u9 [] _ := hG.pick [] (by decide) (by simp)
            clear hM
            refine Calls.mono (asStrO nd8 kl _ _ _ hP ) ?_
            rintro e9 u1 ⟨rfl, hQ⟩
            obtain ⟨α', hα'⟩ : ∃ α' : Rega.Atoms, α' = α := ⟨_, rfl⟩
            have hα : ∀ j, j % 1000 ≠ 6 → α' j = α j := fun j hj => by rw [hα']
            skip
            refine hK _ α' _ hα ?_ (step_call (st9) hL hcl hα [] [] (by decide) (by decide) (by decide) (M := _) ?_ hG hQ)
            · rfl
            · show [] = _
              rw []
          · intro L9 α a9 u9 K9 hL hcl hA hG hS h0 hK
            replace hL : L9 7 = false := hL
            have q12 : a9.tmps[12]? = some (.pointer (some ⟨B12, 0, none⟩)) := (h0 12 (by kernel_rfl)).trans rfl
            have s12 := Rega.eval_of q12
            have e0 : rLri9R loc kl nd8 B12 nd15 B19 nd22 nd23 nd24 nd26 nd27 nd31 nd32 nd33 nd35 nd36 L9 α 5999 = row (B12) 30 #[.iface 50 (.pointer (some ⟨nd8, 0, none⟩)), .int .i32 kl] := rfl
            have hr := hG.rowAt 5999 (act_base 5999 rfl) e0
            have c0 : u9.cell? ⟨B12, 0, none⟩ = some (.iface 50 (.pointer (some ⟨nd8, 0, none⟩))) := hr.cell rfl
            have c1 : u9.cell? ⟨B12, 1, none⟩ = some (.int .i32 kl) := hr.cell rfl
            clear hr e0
            go_simp
            exact hK _ α _ (fun _ _ => rfl) rfl (step_same (st9) hL hcl rfl rfl hG)
          · intro L9 α a9 u9 K9 hL hcl hA hG hS h0 hK
            replace hL : L9 8 = false := hL
            have q163 : a9.tmps[163]? = some (.agg #[.iface 50 (.pointer (some ⟨nd8, 0, none⟩)), .int .i32 kl]) := hS 7 163 (by decide) rfl (by show 163 < 178; decide)
            have s163 := Rega.eval_of q163
            go_simp
            have hM : ∀ i, i ∈ [] → act rLri9Cnt 6 L9 i := by intro i hi; simp at hi
            have hP : Own w0 u9 [] _ := hG.pick [] (by decide) (by simp)
            clear hM
            refine Calls.mono (asStrO nd8 kl _ _ _ hP ) ?_
            rintro e9 u1 ⟨rfl, hQ⟩
            obtain ⟨α', hα'⟩ : ∃ α' : Rega.Atoms, α' = α := ⟨_, rfl⟩
            have hα : ∀ j, j % 1000 ≠ 8 → α' j = α j := fun j hj => by rw [hα']
            skip
            refine hK _ α' _ hα ?_ (step_call (st9) hL hcl hα [] [] (by decide) (by decide) (by decide) (M := _) ?_ hG hQ)
            · rfl
            · show [] = _
              rw []
          · intro L9 α a9 u9 K9 hL hcl hA hG hS h0 hK
            replace hL : L9 9 = false := hL
            have q162 : a9.tmps[162]? = some (.pointer (some ⟨nd8, 0, none⟩)) := hS 6 162 (by decide) rfl (by show 162 < 178; decide)
            have s162 := Rega.eval_of q162
            have q164 : a9.tmps[164]? = some (.pointer (some ⟨nd8, 0, none⟩)) := hS 8 164 (by decide) rfl (by show 164 < 178; decide)
            have s164 := Rega.eval_of q164
            go_simp
            exact hK _ α _ (fun _ _ => rfl) rfl (step_same (st9) hL hcl rfl rfl hG)
          · intro L9 α a9 u9 K9 hL hcl hA hG hS h0 hK
            replace hL : L9 10 = false := hL
            have q165 : a9.tmps[165]? = some (.bool true) := hS 9 165 (by decide) rfl (by show 165 < 178; decide)
            have s165 := Rega.eval_of q165
            go_simp
            exact hK _ α _ (fun _ _ => rfl) rfl (step_same (st9) hL hcl rfl rfl hG)
          · intro L9 α a9 u9 K9 hL hcl hA hG hS h0 hK
            replace hL : L9 11 = false := hL
            have q17 : a9.tmps[17]? = some (.pointer (some ⟨nd31, 0, none⟩)) := (h0 17 (by kernel_rfl)).trans rfl
            have s17 := Rega.eval_of q17
            have q166 : a9.tmps[166]? = some (.bool true) := hS 10 166 (by decide) rfl (by show 166 < 178; decide)
            have s166 := Rega.eval_of q166
            go_simp
            exact hK _ α _ (fun _ _ => rfl) rfl (step_same (st9) hL hcl rfl rfl hG)
          · intro L9 α a9 u9 K9 hL hcl hA hG hS h0 hK
            replace hL : L9 12 = false := hL
            have q167 : a9.tmps[167]? = some (.pointer (some ⟨nd31, 0, none⟩)) := hS 11 167 (by decide) rfl (by show 167 < 178; decide)
            have s167 := Rega.eval_of q167
            have q166 : a9.tmps[166]? = some (.bool true) := hS 10 166 (by decide) rfl (by show 166 < 178; decide)
            have s166 := Rega.eval_of q166
            go_simp
            exact hK _ α _ (fun _ _ => rfl) rfl (step_same (st9) hL hcl rfl rfl hG)
          · intro L9 α a9 u9 K9 hL hcl hA hG hS h0 hK
            replace hL : L9 13 = false := hL
            have q168 : a9.tmps[168]? = some (.pointer (some ⟨nd31, 0, none⟩)) := hS 12 168 (by decide) rfl (by show 168 < 178; decide)
            have s168 := Rega.eval_of q168
            have q166 : a9.tmps[166]? = some (.bool true) := hS 10 166 (by decide) rfl (by show 166 < 178; decide)
            have s166 := Rega.eval_of q166
            go_simp
            exact hK _ α _ (fun _ _ => rfl) rfl (step_same (st9) hL hcl rfl rfl hG)
          · intro L9 α a9 u9 K9 hL hcl hA hG hS h0 hK
            replace hL : L9 14 = false := hL
            have q169 : a9.tmps[169]? = some (.pointer (some ⟨nd31, 2, none⟩)) := hS 13 169 (by decide) rfl (by show 169 < 178; decide)
            have s169 := Rega.eval_of q169
            have q166 : a9.tmps[166]? = some (.bool true) := hS 10 166 (by decide) rfl (by show 166 < 178; decide)
            have s166 := Rega.eval_of q166
            have e0 : rLri9R loc kl nd8 B12 nd15 B19 nd22 nd23 nd24 nd26 nd27 nd31 nd32 nd33 nd35 nd36 L9 α 999 = row (nd31) 56 #[.iface 220 (.pointer (some ⟨nd32, 0, none⟩)), .int .i32 loc, .slice (some ⟨nd33, 0, none⟩) 3 3, .int .i32 0, .int .u8 0, .int .u8 0, .bool false, .bool false] := rfl
            have hr := hG.rowAt 999 (act_base 999 rfl) e0
            have c0 : u9.cell? ⟨nd31, 2, none⟩ = some (.slice (some ⟨nd33, 0, none⟩) 3 3) := hr.cell rfl
            clear hr e0
            go_simp
            exact hK _ α _ (fun _ _ => rfl) rfl (step_same (st9) hL hcl rfl rfl hG)
          · intro L9 α a9 u9 K9 hL hcl hA hG hS h0 hK
            replace hL : L9 15 = false := hL
            have q170 : a9.tmps[170]? = some (.slice (some ⟨nd33, 0, none⟩) 3 3) := hS 14 170 (by decide) rfl (by show 170 < 178; decide)
            have s170 := Rega.eval_of q170
            have q166 : a9.tmps[166]? = some (.bool true) := hS 10 166 (by decide) rfl (by show 166 < 178; decide)
            have s166 := Rega.eval_of q166
            go_simp
            exact hK _ α _ (fun _ _ => rfl) rfl (step_same (st9) hL hcl rfl rfl hG)
          · intro L9 α a9 u9 K9 hL hcl hA hG hS h0 hK
            replace hL : L9 16 = false := hL
            have q171 : a9.tmps[171]? = some (.pointer (some ⟨nd33, 4, none⟩)) := hS 15 171 (by decide) rfl (by show 171 < 178; decide)
            have s171 := Rega.eval_of q171
            have q166 : a9.tmps[166]? = some (.bool true) := hS 10 166 (by decide) rfl (by show 166 < 178; decide)
            have s166 := Rega.eval_of q166
            have e0 : rLri9R loc kl nd8 B12 nd15 B19 nd22 nd23 nd24 nd26 nd27 nd31 nd32 nd33 nd35 nd36 L9 α 1999 = row (nd33) 30 #[.iface 40 (.pointer (some ⟨nd36, 0, none⟩)), .int .i32 loc, .iface 220 (.pointer (some ⟨nd35, 0, none⟩)), .int .i32 loc, .iface 50 (.pointer (some ⟨nd15, 0, none⟩)), .int .i32 kl] := rfl
            have hr := hG.rowAt 1999 (act_base 1999 rfl) e0
            have c0 : u9.cell? ⟨nd33, 4, none⟩ = some (.iface 50 (.pointer (some ⟨nd15, 0, none⟩))) := hr.cell rfl
            have c1 : u9.cell? ⟨nd33, 5, none⟩ = some (.int .i32 kl) := hr.cell rfl
            clear hr e0
            go_simp
            exact hK _ α _ (fun _ _ => rfl) rfl (step_same (st9) hL hcl rfl rfl hG)
          · intro L9 α a9 u9 K9 hL hcl hA hG hS h0 hK
            replace hL : L9 17 = false := hL
            have q172 : a9.tmps[172]? = some (.agg #[.iface 50 (.pointer (some ⟨nd15, 0, none⟩)), .int .i32 kl]) := hS 16 172 (by decide) rfl (by show 172 < 178; decide)
            have s172 := Rega.eval_of q172
            have q166 : a9.tmps[166]? = some (.bool true) := hS 10 166 (by decide) rfl (by show 166 < 178; decide)
            have s166 := Rega.eval_of q166
            go_simp
            have hM : ∀ i, i ∈ [] → act rLri9Cnt 6 L9 i := by intro i hi; simp at hi
            have hP : Own w0 u9 [] _ := hG.pick [] (by decide) (by simp)
            clear hM
            refine Calls.mono (asStrO nd15 kl _ _ _ hP ) ?_
            rintro e9 u1 ⟨rfl, hQ⟩
            obtain ⟨α', hα'⟩ : ∃ α' : Rega.Atoms, α' = α := ⟨_, rfl⟩
            have hα : ∀ j, j % 1000 ≠ 17 → α' j = α j := fun j hj => by rw [hα']
            skip
            refine hK _ α' _ hα ?_ (step_call (st9) hL hcl hα [] [] (by decide) (by decide) (by decide) (M := _) ?_ hG hQ)
            · rfl
            · show [] = _
              rw []
          · intro L9 α a9 u9 K9 hL hcl hA hG hS h0 hK
            replace hL : L9 18 = false := hL
            have q13 : a9.tmps[13]? = some (.pointer (some ⟨B19, 0, none⟩)) := (h0 13 (by kernel_rfl)).trans rfl
            have s13 := Rega.eval_of q13
            have q166 : a9.tmps[166]? = some (.bool true) := hS 10 166 (by decide) rfl (by show 166 < 178; decide)
            have s166 := Rega.eval_of q166
            have e0 : rLri9R loc kl nd8 B12 nd15 B19 nd22 nd23 nd24 nd26 nd27 nd31 nd32 nd33 nd35 nd36 L9 α 4999 = row (B19) 30 #[.iface 50 (.pointer (some ⟨nd15, 0, none⟩)), .int .i32 kl] := rfl
            have hr := hG.rowAt 4999 (act_base 4999 rfl) e0
            have c0 : u9.cell? ⟨B19, 0, none⟩ = some (.iface 50 (.pointer (some ⟨nd15, 0, none⟩))) := hr.cell rfl
            have c1 : u9.cell? ⟨B19, 1, none⟩ = some (.int .i32 kl) := hr.cell rfl
            clear hr e0
            go_simp
            exact hK _ α _ (fun _ _ => rfl) rfl (step_same (st9) hL hcl rfl rfl hG)
          · intro L9 α a9 u9 K9 hL hcl hA hG hS h0 hK
            replace hL : L9 19 = false := hL
            have q174 : a9.tmps[174]? = some (.agg #[.iface 50 (.pointer (some ⟨nd15, 0, none⟩)), .int .i32 kl]) := hS 18 174 (by decide) rfl (by show 174 < 178; decide)
            have s174 := Rega.eval_of q174
            have q166 : a9.tmps[166]? = some (.bool true) := hS 10 166 (by decide) rfl (by show 166 < 178; decide)
            have s166 := Rega.eval_of q166
            go_simp
            have hM : ∀ i, i ∈ [] → act rLri9Cnt 6 L9 i := by intro i hi; simp at hi
            have hP : Own w0 u9 [] _ := hG.pick [] (by decide) (by simp)
            clear hM
            refine Calls.mono (asStrO nd15 kl _ _ _ hP ) ?_
            rintro e9 u1 ⟨rfl, hQ⟩
            obtain ⟨α', hα'⟩ : ∃ α' : Rega.Atoms, α' = α := ⟨_, rfl⟩
            have hα : ∀ j, j % 1000 ≠ 19 → α' j = α j := fun j hj => by rw [hα']
            skip
            refine hK _ α' _ hα ?_ (step_call (st9) hL hcl hα [] [] (by decide) (by decide) (by decide) (M := _) ?_ hG hQ)
            · rfl
            · show [] = _
              rw []
          · intro L9 α a9 u9 K9 hL hcl hA hG hS h0 hK
            replace hL : L9 20 = false := hL
            have q173 : a9.tmps[173]? = some (.pointer (some ⟨nd15, 0, none⟩)) := hS 17 173 (by decide) rfl (by show 173 < 178; decide)
            have s173 := Rega.eval_of q173
            have q175 : a9.tmps[175]? = some (.pointer (some ⟨nd15, 0, none⟩)) := hS 19 175 (by decide) rfl (by show 175 < 178; decide)
            have s175 := Rega.eval_of q175
            have q166 : a9.tmps[166]? = some (.bool true) := hS 10 166 (by decide) rfl (by show 166 < 178; decide)
            have s166 := Rega.eval_of q166
            go_simp
            exact hK _ α _ (fun _ _ => rfl) rfl (step_same (st9) hL hcl rfl rfl hG)
          · intro L9 α a9 u9 K9 hL hcl hA hG hS h0 hK
            replace hL : L9 21 = false := hL
            have q166 : a9.tmps[166]? = some (.bool true) := hS 10 166 (by decide) rfl (by show 166 < 178; decide)
            have s166 := Rega.eval_of q166
            have q176 : a9.tmps[176]? = some (.bool true) := hS 20 176 (by decide) rfl (by show 176 < 178; decide)
            have s176 := Rega.eval_of q176
            go_simp
            exact hK _ α _ (fun _ _ => rfl) rfl (step_same (st9) hL hcl rfl rfl hG)
          · intro L9 α a9 u9 K9 hL hcl hA hG hS h0 hK
            replace hL : L9 22 = false := hL
            have q177 : a9.tmps[177]? = some (.bool true) := hS 21 177 (by decide) rfl (by show 177 < 178; decide)
            have s177 := Rega.eval_of q177
            go_simp
            exact hK _ α _ (fun _ _ => rfl) rfl (step_same (st9) hL hcl rfl rfl hG)
        · clear st9
          intro α u hG
          have e0 : rLri9R loc kl nd8 B12 nd15 B19 nd22 nd23 nd24 nd26 nd27 nd31 nd32 nd33 nd35 nd36 (fun k => decide (k < 23)) α 999 = row (nd31) 56 #[.iface 220 (.pointer (some ⟨nd32, 0, none⟩)), .int .i32 loc, .slice (some ⟨nd33, 0, none⟩) 3 3, .int .i32 0, .int .u8 0, .int .u8 0, .bool false, .bool false] := rfl
          have e1 : rLri9R loc kl nd8 B12 nd15 B19 nd22 nd23 nd24 nd26 nd27 nd31 nd32 nd33 nd35 nd36 (fun k => decide (k < 23)) α 1999 = row (nd33) 30 #[.iface 40 (.pointer (some ⟨nd36, 0, none⟩)), .int .i32 loc, .iface 220 (.pointer (some ⟨nd35, 0, none⟩)), .int .i32 loc, .iface 50 (.pointer (some ⟨nd15, 0, none⟩)), .int .i32 kl] := rfl
          have e2 : rLri9R loc kl nd8 B12 nd15 B19 nd22 nd23 nd24 nd26 nd27 nd31 nd32 nd33 nd35 nd36 (fun k => decide (k < 23)) α 2999 = row (nd22) 56 #[.iface 220 (.pointer (some ⟨nd23, 0, none⟩)), .int .i32 loc, .slice (some ⟨nd24, 0, none⟩) 3 3, .int .i32 0, .int .u8 0, .int .u8 0, .bool false, .bool false] := rfl
          have e3 : rLri9R loc kl nd8 B12 nd15 B19 nd22 nd23 nd24 nd26 nd27 nd31 nd32 nd33 nd35 nd36 (fun k => decide (k < 23)) α 3999 = row (nd24) 30 #[.iface 40 (.pointer (some ⟨nd27, 0, none⟩)), .int .i32 loc, .iface 220 (.pointer (some ⟨nd26, 0, none⟩)), .int .i32 loc, .iface 50 (.pointer (some ⟨nd8, 0, none⟩)), .int .i32 kl] := rfl
          have e4 : rLri9R loc kl nd8 B12 nd15 B19 nd22 nd23 nd24 nd26 nd27 nd31 nd32 nd33 nd35 nd36 (fun k => decide (k < 23)) α 4999 = row (B19) 30 #[.iface 50 (.pointer (some ⟨nd15, 0, none⟩)), .int .i32 kl] := rfl
          have e5 : rLri9R loc kl nd8 B12 nd15 B19 nd22 nd23 nd24 nd26 nd27 nd31 nd32 nd33 nd35 nd36 (fun k => decide (k < 23)) α 5999 = row (B12) 30 #[.iface 50 (.pointer (some ⟨nd8, 0, none⟩)), .int .i32 kl] := rfl
          have hO : Own w0 u [row (nd31) 56 #[.iface 220 (.pointer (some ⟨nd32, 0, none⟩)), .int .i32 loc, .slice (some ⟨nd33, 0, none⟩) 3 3, .int .i32 0, .int .u8 0, .int .u8 0, .bool false, .bool false], row (nd33) 30 #[.iface 40 (.pointer (some ⟨nd36, 0, none⟩)), .int .i32 loc, .iface 220 (.pointer (some ⟨nd35, 0, none⟩)), .int .i32 loc, .iface 50 (.pointer (some ⟨nd15, 0, none⟩)), .int .i32 kl], row (nd22) 56 #[.iface 220 (.pointer (some ⟨nd23, 0, none⟩)), .int .i32 loc, .slice (some ⟨nd24, 0, none⟩) 3 3, .int .i32 0, .int .u8 0, .int .u8 0, .bool false, .bool false], row (nd24) 30 #[.iface 40 (.pointer (some ⟨nd27, 0, none⟩)), .int .i32 loc, .iface 220 (.pointer (some ⟨nd26, 0, none⟩)), .int .i32 loc, .iface 50 (.pointer (some ⟨nd8, 0, none⟩)), .int .i32 kl], row (B19) 30 #[.iface 50 (.pointer (some ⟨nd15, 0, none⟩)), .int .i32 kl], row (B12) 30 #[.iface 50 (.pointer (some ⟨nd8, 0, none⟩)), .int .i32 kl]] X9_42 := (hG.list [999, 1999, 2999, 3999, 4999, 5999] (by decide) (act_all (by decide))).conv (by
            show [rLri9R loc kl nd8 B12 nd15 B19 nd22 nd23 nd24 nd26 nd27 nd31 nd32 nd33 nd35 nd36 (fun k => decide (k < 23)) α 999, rLri9R loc kl nd8 B12 nd15 B19 nd22 nd23 nd24 nd26 nd27 nd31 nd32 nd33 nd35 nd36 (fun k => decide (k < 23)) α 1999, rLri9R loc kl nd8 B12 nd15 B19 nd22 nd23 nd24 nd26 nd27 nd31 nd32 nd33 nd35 nd36 (fun k => decide (k < 23)) α 2999, rLri9R loc kl nd8 B12 nd15 B19 nd22 nd23 nd24 nd26 nd27 nd31 nd32 nd33 nd35 nd36 (fun k => decide (k < 23)) α 3999, rLri9R loc kl nd8 B12 nd15 B19 nd22 nd23 nd24 nd26 nd27 nd31 nd32 nd33 nd35 nd36 (fun k => decide (k < 23)) α 4999, rLri9R loc kl nd8 B12 nd15 B19 nd22 nd23 nd24 nd26 nd27 nd31 nd32 nd33 nd35 nd36 (fun k => decide (k < 23)) α 5999] = _
            rw [e0, e1, e2, e3, e4, e5])
          clear hG e0 e1 e2 e3 e4 e5
          generalize hfr : Rega.frameAt _ _ _ _ _ = fr
          have hdf : fr = ⟨#[.bool true, .bool false, .int .i32 loc, .int .i32 kl, .string nm, undef, undef, undef, undef, undef, .bool true, .pointer (some ⟨nd2, 0, none⟩), .pointer (some ⟨B12, 0, none⟩), .pointer (some ⟨B19, 0, none⟩), .pointer (some ⟨B28, 0, none⟩), .pointer (some ⟨B37, 0, none⟩), .pointer (some ⟨nd22, 0, none⟩), .pointer (some ⟨nd31, 0, none⟩), .bool true, .bool false, .int .i32 loc, .int .i32 kl, .string nm, .bool true, .bool false, .string nm, .int .i64 (nm.size : Int), .bool (decide (65536 < (nm.size : Int))), .bool true, .bool false, .pointer (some ⟨nd2, 0, none⟩), .int .i32 kl, .string nm, .agg #[.iface 50 (.pointer (some ⟨nd8, 0, none⟩)), .int .i32 kl], .int .i32 kl, .string nm, .agg #[.iface 50 (.pointer (some ⟨nd15, 0, none⟩)), .int .i32 kl], .pointer (some ⟨nd2, 0, none⟩), .int .i32 loc, .agg #[.iface 50 (.pointer (some ⟨nd8, 0, none⟩)), .int .i32 kl], .agg #[.iface 52 (.pointer (some ⟨nd22, 0, none⟩)), .int .i32 loc], .pointer (some ⟨nd2, 0, none⟩), .int .i32 loc, .agg #[.iface 50 (.pointer (some ⟨nd15, 0, none⟩)), .int .i32 kl], .agg #[.iface 52 (.pointer (some ⟨nd31, 0, none⟩)), .int .i32 loc], .agg #[.iface 52 (.pointer (some ⟨nd22, 0, none⟩)), .int .i32 loc], .pointer (some ⟨nd22, 0, none⟩), .agg #[.iface 52 (.pointer (some ⟨nd31, 0, none⟩)), .int .i32 loc], .pointer (some ⟨nd31, 0, none⟩), .pointer (some ⟨nd22, 0, none⟩), .bool false, .bool false, .pointer (some ⟨nd31, 0, none⟩), .bool false, .bool false, .bool false, .pointer (some ⟨nd22, 0, none⟩), .pointer (some ⟨nd31, 0, none⟩), .bool false, .bool false, .pointer (some ⟨nd22, 0, none⟩), .pointer (some ⟨nd22, 0, none⟩), .pointer (some ⟨nd22, 2, none⟩), .slice (some ⟨nd24, 0, none⟩) 3 3, .int .i64 3, .bool false, .bool false, .pointer (some ⟨nd31, 0, none⟩), .pointer (some ⟨nd31, 0, none⟩), .pointer (some ⟨nd31, 2, none⟩), .slice (some ⟨nd33, 0, none⟩) 3 3, .int .i64 3, .bool false, .bool false, .pointer (some ⟨nd22, 0, none⟩), .pointer (some ⟨nd22, 0, none⟩), .pointer (some ⟨nd22, 0, none⟩), .agg #[.iface 220 (.pointer (some ⟨nd23, 0, none⟩)), .int .i32 loc], .pointer (some ⟨nd31, 0, none⟩), .pointer (some ⟨nd31, 0, none⟩), .pointer (some ⟨nd31, 0, none⟩), .agg #[.iface 220 (.pointer (some ⟨nd32, 0, none⟩)), .int .i32 loc], .bool true, .bool false, .bool false, .pointer (some ⟨nd22, 0, none⟩), .pointer (some ⟨nd22, 0, none⟩), .pointer (some ⟨nd22, 2, none⟩), .slice (some ⟨nd24, 0, none⟩) 3 3, .pointer (some ⟨nd24, 0, none⟩), .agg #[.iface 40 (.pointer (some ⟨nd27, 0, none⟩)), .int .i32 loc], .pointer (some ⟨nd31, 0, none⟩), .pointer (some ⟨nd31, 0, none⟩), .pointer (some ⟨nd31, 2, none⟩), .slice (some ⟨nd33, 0, none⟩) 3 3, .pointer (some ⟨nd33, 0, none⟩), .agg #[.iface 40 (.pointer (some ⟨nd36, 0, none⟩)), .int .i32 loc], .bool true, .bool false, .bool false, .bool false, .pointer (some ⟨nd22, 0, none⟩), .pointer (some ⟨nd22, 0, none⟩), .pointer (some ⟨nd22, 2, none⟩), .slice (some ⟨nd24, 0, none⟩) 3 3, .pointer (some ⟨nd24, 2, none⟩), .agg #[.iface 220 (.pointer (some ⟨nd26, 0, none⟩)), .int .i32 loc], .pointer (some ⟨nd31, 0, none⟩), .pointer (some ⟨nd31, 0, none⟩), .pointer (some ⟨nd31, 2, none⟩), .slice (some ⟨nd33, 0, none⟩) 3 3, .pointer (some ⟨nd33, 2, none⟩), .agg #[.iface 220 (.pointer (some ⟨nd35, 0, none⟩)), .int .i32 loc], .bool true, .bool false, .bool false, .pointer (some ⟨nd22, 0, none⟩), .pointer (some ⟨nd22, 0, none⟩), .pointer (some ⟨nd22, 0, none⟩), .agg #[.iface 220 (.pointer (some ⟨nd23, 0, none⟩)), .int .i32 loc], .pointer (some ⟨nd31, 0, none⟩), .pointer (some ⟨nd31, 0, none⟩), .pointer (some ⟨nd31, 0, none⟩), .agg #[.iface 220 (.pointer (some ⟨nd32, 0, none⟩)), .int .i32 loc], .bool false, .bool false, .pointer (some ⟨nd22, 0, none⟩), .pointer (some ⟨nd22, 0, none⟩), .pointer (some ⟨nd22, 2, none⟩), .slice (some ⟨nd24, 0, none⟩) 3 3, .pointer (some ⟨nd24, 0, none⟩), .agg #[.iface 40 (.pointer (some ⟨nd27, 0, none⟩)), .int .i32 loc], .pointer (some ⟨nd31, 0, none⟩), .pointer (some ⟨nd31, 0, none⟩), .pointer (some ⟨nd31, 2, none⟩), .slice (some ⟨nd33, 0, none⟩) 3 3, .pointer (some ⟨nd33, 0, none⟩), .agg #[.iface 40 (.pointer (some ⟨nd36, 0, none⟩)), .int .i32 loc], .bool false, .bool false, .bool true, .bool true, .pointer (some ⟨nd22, 0, none⟩), .pointer (some ⟨nd22, 0, none⟩), .pointer (some ⟨nd22, 2, none⟩), .slice (some ⟨nd24, 0, none⟩) 3 3, .pointer (some ⟨nd24, 2, none⟩), .agg #[.iface 220 (.pointer (some ⟨nd26, 0, none⟩)), .int .i32 loc], .pointer (some ⟨nd31, 0, none⟩), .pointer (some ⟨nd31, 0, none⟩), .pointer (some ⟨nd31, 2, none⟩), .slice (some ⟨nd33, 0, none⟩) 3 3, .pointer (some ⟨nd33, 2, none⟩), .agg #[.iface 220 (.pointer (some ⟨nd35, 0, none⟩)), .int .i32 loc], .bool false, .bool false, .pointer (some ⟨nd22, 0, none⟩), .pointer (some ⟨nd22, 0, none⟩), .pointer (some ⟨nd22, 2, none⟩), .slice (some ⟨nd24, 0, none⟩) 3 3, .pointer (some ⟨nd24, 4, none⟩), .agg #[.iface 50 (.pointer (some ⟨nd8, 0, none⟩)), .int .i32 kl], .pointer (some ⟨nd8, 0, none⟩), .agg #[.iface 50 (.pointer (some ⟨nd8, 0, none⟩)), .int .i32 kl], .pointer (some ⟨nd8, 0, none⟩), .bool true, .bool true, .pointer (some ⟨nd31, 0, none⟩), .pointer (some ⟨nd31, 0, none⟩), .pointer (some ⟨nd31, 2, none⟩), .slice (some ⟨nd33, 0, none⟩) 3 3, .pointer (some ⟨nd33, 4, none⟩), .agg #[.iface 50 (.pointer (some ⟨nd15, 0, none⟩)), .int .i32 kl], .pointer (some ⟨nd15, 0, none⟩), .agg #[.iface 50 (.pointer (some ⟨nd15, 0, none⟩)), .int .i32 kl], .pointer (some ⟨nd15, 0, none⟩), .bool true, .bool true], []⟩ := by rw [← hfr]; kernel_rfl
          clear hfr
          subst hdf
          clear α
          subst hX9_42
          have hN : Own w0 u [row (nd31) 56 #[.iface 220 (.pointer (some ⟨nd32, 0, none⟩)), .int .i32 loc, .slice (some ⟨nd33, 0, none⟩) 3 3, .int .i32 0, .int .u8 0, .int .u8 0, .bool false, .bool false], row (nd33) 30 #[.iface 40 (.pointer (some ⟨nd36, 0, none⟩)), .int .i32 loc, .iface 220 (.pointer (some ⟨nd35, 0, none⟩)), .int .i32 loc, .iface 50 (.pointer (some ⟨nd15, 0, none⟩)), .int .i32 kl], row (nd22) 56 #[.iface 220 (.pointer (some ⟨nd23, 0, none⟩)), .int .i32 loc, .slice (some ⟨nd24, 0, none⟩) 3 3, .int .i32 0, .int .u8 0, .int .u8 0, .bool false, .bool false], row (nd24) 30 #[.iface 40 (.pointer (some ⟨nd27, 0, none⟩)), .int .i32 loc, .iface 220 (.pointer (some ⟨nd26, 0, none⟩)), .int .i32 loc, .iface 50 (.pointer (some ⟨nd8, 0, none⟩)), .int .i32 kl], row (B19) 30 #[.iface 50 (.pointer (some ⟨nd15, 0, none⟩)), .int .i32 kl], row (B12) 30 #[.iface 50 (.pointer (some ⟨nd8, 0, none⟩)), .int .i32 kl], row (nd35) 223 #[.int .u32 0, .int .u32 1, .bool false, .bool false, .bool false], row (nd26) 223 #[.int .u32 0, .int .u32 1, .bool false, .bool false, .bool false], row (nd32) 223 #[.int .u32 0, .int .u32 3, .bool false, .bool false, .bool false], row (nd34) 223 #[.int .u32 0, .int .u32 1, .bool false, .bool false, .bool false], row (nd36) 44 #[.iface 220 (.pointer (some ⟨nd34, 0, none⟩)), .int .i32 loc, .string ⟨#[112, 114, 111, 116, 111, 116, 121, 112, 101]⟩, .int .i32 loc, .int .u8 0, .bool false, .bool false, .bool false], row (nd23) 223 #[.int .u32 0, .int .u32 3, .bool false, .bool false, .bool false], row (nd25) 223 #[.int .u32 0, .int .u32 1, .bool false, .bool false, .bool false], row (nd27) 44 #[.iface 220 (.pointer (some ⟨nd25, 0, none⟩)), .int .i32 loc, .string ⟨#[112, 114, 111, 116, 111, 116, 121, 112, 101]⟩, .int .i32 loc, .int .u8 0, .bool false, .bool false, .bool false], row (B37) 30 #[.iface 52 (.pointer (some ⟨nd31, 0, none⟩)), .int .i32 loc], row (B28) 30 #[.iface 52 (.pointer (some ⟨nd22, 0, none⟩)), .int .i32 loc], row (nd15) 214 #[.slice (some ⟨nd16, 0, none⟩) nd17 nd18, .int .i32 0, .bool false, .bool false, .bool false], row (nd8) 214 #[.slice (some ⟨nd9, 0, none⟩) nd10 nd11, .int .i32 0, .bool false, .bool false, .bool false]] X := hO.back HL.out HX.out [4, 5, 6, 7, 8, 9, 10, 11, 12, 13, 15, 17] (by decide) (by decide)
          clear hO HL HX
          have hO := hN
          clear hN
          have ne9_0_2 : ¬ nd31 = nd22 := hO.ne 0 2 rfl rfl (by decide)
          have ne9_1_3 : ¬ nd33 = nd24 := hO.ne 1 3 rfl rfl (by decide)
          have ne9_1_4 : ¬ nd33 = B19 := hO.ne 1 4 rfl rfl (by decide)
          have ne9_1_5 : ¬ nd33 = B12 := hO.ne 1 5 rfl rfl (by decide)
          have ne9_1_14 : ¬ nd33 = B37 := hO.ne 1 14 rfl rfl (by decide)
          have ne9_1_15 : ¬ nd33 = B28 := hO.ne 1 15 rfl rfl (by decide)
          have ne9_2_0 : ¬ nd22 = nd31 := hO.ne 2 0 rfl rfl (by decide)
          have ne9_3_1 : ¬ nd24 = nd33 := hO.ne 3 1 rfl rfl (by decide)
          have ne9_3_4 : ¬ nd24 = B19 := hO.ne 3 4 rfl rfl (by decide)
          have ne9_3_5 : ¬ nd24 = B12 := hO.ne 3 5 rfl rfl (by decide)
          have ne9_3_14 : ¬ nd24 = B37 := hO.ne 3 14 rfl rfl (by decide)
          have ne9_3_15 : ¬ nd24 = B28 := hO.ne 3 15 rfl rfl (by decide)
          have ne9_4_1 : ¬ B19 = nd33 := hO.ne 4 1 rfl rfl (by decide)
          have ne9_4_3 : ¬ B19 = nd24 := hO.ne 4 3 rfl rfl (by decide)
          have ne9_4_5 : ¬ B19 = B12 := hO.ne 4 5 rfl rfl (by decide)
          have ne9_4_14 : ¬ B19 = B37 := hO.ne 4 14 rfl rfl (by decide)
          have ne9_4_15 : ¬ B19 = B28 := hO.ne 4 15 rfl rfl (by decide)
          have ne9_5_1 : ¬ B12 = nd33 := hO.ne 5 1 rfl rfl (by decide)
          have ne9_5_3 : ¬ B12 = nd24 := hO.ne 5 3 rfl rfl (by decide)
          have ne9_5_4 : ¬ B12 = B19 := hO.ne 5 4 rfl rfl (by decide)
          have ne9_5_14 : ¬ B12 = B37 := hO.ne 5 14 rfl rfl (by decide)
          have ne9_5_15 : ¬ B12 = B28 := hO.ne 5 15 rfl rfl (by decide)
          have ne9_6_7 : ¬ nd35 = nd26 := hO.ne 6 7 rfl rfl (by decide)
          have ne9_6_8 : ¬ nd35 = nd32 := hO.ne 6 8 rfl rfl (by decide)
          have ne9_6_9 : ¬ nd35 = nd34 := hO.ne 6 9 rfl rfl (by decide)
          have ne9_6_11 : ¬ nd35 = nd23 := hO.ne 6 11 rfl rfl (by decide)
          have ne9_6_12 : ¬ nd35 = nd25 := hO.ne 6 12 rfl rfl (by decide)
          have ne9_7_6 : ¬ nd26 = nd35 := hO.ne 7 6 rfl rfl (by decide)
          have ne9_7_8 : ¬ nd26 = nd32 := hO.ne 7 8 rfl rfl (by decide)
          have ne9_7_9 : ¬ nd26 = nd34 := hO.ne 7 9 rfl rfl (by decide)
          have ne9_7_11 : ¬ nd26 = nd23 := hO.ne 7 11 rfl rfl (by decide)
          have ne9_7_12 : ¬ nd26 = nd25 := hO.ne 7 12 rfl rfl (by decide)
          have ne9_8_6 : ¬ nd32 = nd35 := hO.ne 8 6 rfl rfl (by decide)
          have ne9_8_7 : ¬ nd32 = nd26 := hO.ne 8 7 rfl rfl (by decide)
          have ne9_8_9 : ¬ nd32 = nd34 := hO.ne 8 9 rfl rfl (by decide)
          have ne9_8_11 : ¬ nd32 = nd23 := hO.ne 8 11 rfl rfl (by decide)
          have ne9_8_12 : ¬ nd32 = nd25 := hO.ne 8 12 rfl rfl (by decide)
          have ne9_9_6 : ¬ nd34 = nd35 := hO.ne 9 6 rfl rfl (by decide)
          have ne9_9_7 : ¬ nd34 = nd26 := hO.ne 9 7 rfl rfl (by decide)
          have ne9_9_8 : ¬ nd34 = nd32 := hO.ne 9 8 rfl rfl (by decide)
          have ne9_9_11 : ¬ nd34 = nd23 := hO.ne 9 11 rfl rfl (by decide)
          have ne9_9_12 : ¬ nd34 = nd25 := hO.ne 9 12 rfl rfl (by decide)
          have ne9_10_13 : ¬ nd36 = nd27 := hO.ne 10 13 rfl rfl (by decide)
          have ne9_11_6 : ¬ nd23 = nd35 := hO.ne 11 6 rfl rfl (by decide)
          have ne9_11_7 : ¬ nd23 = nd26 := hO.ne 11 7 rfl rfl (by decide)
          have ne9_11_8 : ¬ nd23 = nd32 := hO.ne 11 8 rfl rfl (by decide)
          have ne9_11_9 : ¬ nd23 = nd34 := hO.ne 11 9 rfl rfl (by decide)
          have ne9_11_12 : ¬ nd23 = nd25 := hO.ne 11 12 rfl rfl (by decide)
          have ne9_12_6 : ¬ nd25 = nd35 := hO.ne 12 6 rfl rfl (by decide)
          have ne9_12_7 : ¬ nd25 = nd26 := hO.ne 12 7 rfl rfl (by decide)
          have ne9_12_8 : ¬ nd25 = nd32 := hO.ne 12 8 rfl rfl (by decide)
          have ne9_12_9 : ¬ nd25 = nd34 := hO.ne 12 9 rfl rfl (by decide)
          have ne9_12_11 : ¬ nd25 = nd23 := hO.ne 12 11 rfl rfl (by decide)
          have ne9_13_10 : ¬ nd27 = nd36 := hO.ne 13 10 rfl rfl (by decide)
          have ne9_14_1 : ¬ B37 = nd33 := hO.ne 14 1 rfl rfl (by decide)
          have ne9_14_3 : ¬ B37 = nd24 := hO.ne 14 3 rfl rfl (by decide)
          have ne9_14_4 : ¬ B37 = B19 := hO.ne 14 4 rfl rfl (by decide)
          have ne9_14_5 : ¬ B37 = B12 := hO.ne 14 5 rfl rfl (by decide)
          have ne9_14_15 : ¬ B37 = B28 := hO.ne 14 15 rfl rfl (by decide)
          have ne9_15_1 : ¬ B28 = nd33 := hO.ne 15 1 rfl rfl (by decide)
          have ne9_15_3 : ¬ B28 = nd24 := hO.ne 15 3 rfl rfl (by decide)
          have ne9_15_4 : ¬ B28 = B19 := hO.ne 15 4 rfl rfl (by decide)
          have ne9_15_5 : ¬ B28 = B12 := hO.ne 15 5 rfl rfl (by decide)
          have ne9_15_14 : ¬ B28 = B37 := hO.ne 15 14 rfl rfl (by decide)
          have ne9_16_17 : ¬ nd15 = nd8 := hO.ne 16 17 rfl rfl (by decide)
          have ne9_17_16 : ¬ nd8 = nd15 := hO.ne 17 16 rfl rfl (by decide)
          obtain ⟨c9_0_0, c9_0_1, c9_0_2, c9_0_3, c9_0_4, c9_0_5, c9_0_6, c9_0_7, lt9_0, y9_0, pl9_0⟩ := hO.k8 0 rfl
          obtain ⟨c9_1_0, c9_1_1, c9_1_2, c9_1_3, c9_1_4, c9_1_5, lt9_1, y9_1, pl9_1⟩ := hO.k6 1 rfl
          obtain ⟨c9_2_0, c9_2_1, c9_2_2, c9_2_3, c9_2_4, c9_2_5, c9_2_6, c9_2_7, lt9_2, y9_2, pl9_2⟩ := hO.k8 2 rfl
          obtain ⟨c9_3_0, c9_3_1, c9_3_2, c9_3_3, c9_3_4, c9_3_5, lt9_3, y9_3, pl9_3⟩ := hO.k6 3 rfl
          obtain ⟨c9_4_0, c9_4_1, lt9_4, y9_4, pl9_4⟩ := hO.k2 4 rfl
          obtain ⟨c9_5_0, c9_5_1, lt9_5, y9_5, pl9_5⟩ := hO.k2 5 rfl
          obtain ⟨c9_6_0, c9_6_1, c9_6_2, c9_6_3, c9_6_4, lt9_6, y9_6, pl9_6⟩ := hO.k5 6 rfl
          obtain ⟨c9_7_0, c9_7_1, c9_7_2, c9_7_3, c9_7_4, lt9_7, y9_7, pl9_7⟩ := hO.k5 7 rfl
          obtain ⟨c9_8_0, c9_8_1, c9_8_2, c9_8_3, c9_8_4, lt9_8, y9_8, pl9_8⟩ := hO.k5 8 rfl
          obtain ⟨c9_9_0, c9_9_1, c9_9_2, c9_9_3, c9_9_4, lt9_9, y9_9, pl9_9⟩ := hO.k5 9 rfl
          obtain ⟨c9_10_0, c9_10_1, c9_10_2, c9_10_3, c9_10_4, c9_10_5, c9_10_6, c9_10_7, lt9_10, y9_10, pl9_10⟩ := hO.k8 10 rfl
          obtain ⟨c9_11_0, c9_11_1, c9_11_2, c9_11_3, c9_11_4, lt9_11, y9_11, pl9_11⟩ := hO.k5 11 rfl
          obtain ⟨c9_12_0, c9_12_1, c9_12_2, c9_12_3, c9_12_4, lt9_12, y9_12, pl9_12⟩ := hO.k5 12 rfl
          obtain ⟨c9_13_0, c9_13_1, c9_13_2, c9_13_3, c9_13_4, c9_13_5, c9_13_6, c9_13_7, lt9_13, y9_13, pl9_13⟩ := hO.k8 13 rfl
          obtain ⟨c9_14_0, c9_14_1, lt9_14, y9_14, pl9_14⟩ := hO.k2 14 rfl
          obtain ⟨c9_15_0, c9_15_1, lt9_15, y9_15, pl9_15⟩ := hO.k2 15 rfl
          obtain ⟨c9_16_0, c9_16_1, c9_16_2, c9_16_3, c9_16_4, lt9_16, y9_16, pl9_16⟩ := hO.k5 16 rfl
          obtain ⟨c9_17_0, c9_17_1, c9_17_2, c9_17_3, c9_17_4, lt9_17, y9_17, pl9_17⟩ := hO.k5 17 rfl
          have HO := Lib.hid hO
          clear hO
          go_wp2_with (first | (go_at_call 39; go_in) | (go_at_call 40; go_in) | (go_at_call 18; go_in) | (go_at_call 23; go_in) | (go_at_call 21; go_in) | (go_at_call 41; go_in) | (go_at_call 42; go_in) | (go_at_call 28; go_in) | (go_at_call 43; go_in) | (go_at_call 22; go_in))
          have hO := HO.out
          clear HO ne9_0_2 ne9_1_3 ne9_1_4 ne9_1_5 ne9_1_14 ne9_1_15 ne9_2_0 ne9_3_1 ne9_3_4 ne9_3_5 ne9_3_14 ne9_3_15 ne9_4_1 ne9_4_3 ne9_4_5 ne9_4_14 ne9_4_15 ne9_5_1 ne9_5_3 ne9_5_4 ne9_5_14 ne9_5_15 ne9_6_7 ne9_6_8 ne9_6_9 ne9_6_11 ne9_6_12 ne9_7_6 ne9_7_8 ne9_7_9 ne9_7_11 ne9_7_12 ne9_8_6 ne9_8_7 ne9_8_9 ne9_8_11 ne9_8_12 ne9_9_6 ne9_9_7 ne9_9_8 ne9_9_11 ne9_9_12 ne9_10_13 ne9_11_6 ne9_11_7 ne9_11_8 ne9_11_9 ne9_11_12 ne9_12_6 ne9_12_7 ne9_12_8 ne9_12_9 ne9_12_11 ne9_13_10 ne9_14_1 ne9_14_3 ne9_14_4 ne9_14_5 ne9_14_15 ne9_15_1 ne9_15_3 ne9_15_4 ne9_15_5 ne9_15_14 ne9_16_17 ne9_17_16 c9_0_0 c9_0_1 c9_0_2 c9_0_3 c9_0_4 c9_0_5 c9_0_6 c9_0_7 lt9_0 y9_0 pl9_0 c9_1_0 c9_1_1 c9_1_2 c9_1_3 c9_1_4 c9_1_5 lt9_1 y9_1 pl9_1 c9_2_0 c9_2_1 c9_2_2 c9_2_3 c9_2_4 c9_2_5 c9_2_6 c9_2_7 lt9_2 y9_2 pl9_2 c9_3_0 c9_3_1 c9_3_2 c9_3_3 c9_3_4 c9_3_5 lt9_3 y9_3 pl9_3 c9_4_0 c9_4_1 lt9_4 y9_4 pl9_4 c9_5_0 c9_5_1 lt9_5 y9_5 pl9_5 c9_6_0 c9_6_1 c9_6_2 c9_6_3 c9_6_4 lt9_6 y9_6 pl9_6 c9_7_0 c9_7_1 c9_7_2 c9_7_3 c9_7_4 lt9_7 y9_7 pl9_7 c9_8_0 c9_8_1 c9_8_2 c9_8_3 c9_8_4 lt9_8 y9_8 pl9_8 c9_9_0 c9_9_1 c9_9_2 c9_9_3 c9_9_4 lt9_9 y9_9 pl9_9 c9_10_0 c9_10_1 c9_10_2 c9_10_3 c9_10_4 c9_10_5 c9_10_6 c9_10_7 lt9_10 y9_10 pl9_10 c9_11_0 c9_11_1 c9_11_2 c9_11_3 c9_11_4 lt9_11 y9_11 pl9_11 c9_12_0 c9_12_1 c9_12_2 c9_12_3 c9_12_4 lt9_12 y9_12 pl9_12 c9_13_0 c9_13_1 c9_13_2 c9_13_3 c9_13_4 c9_13_5 c9_13_6 c9_13_7 lt9_13 y9_13 pl9_13 c9_14_0 c9_14_1 lt9_14 y9_14 pl9_14 c9_15_0 c9_15_1 lt9_15 y9_15 pl9_15 c9_16_0 c9_16_1 c9_16_2 c9_16_3 c9_16_4 lt9_16 y9_16 pl9_16 c9_17_0 c9_17_1 c9_17_2 c9_17_3 c9_17_4 lt9_17 y9_17 pl9_17
          refine bodyPost_ret (v := .bool true) ?_ rfl ⟨rfl, hO.sub [] (by decide)⟩
          simp [results, Tryd.results5, go_sem]
end Go.Proofs.YtcbdjbjbikiaeaaDoor.Use
