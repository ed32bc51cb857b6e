/- The law on a nullish assignment over an index, walked: one of two cases. No condition. -/
import Derived.Test.YtlgefnjkoklboaaGreatDoorOwn
import Derived.Test.YtlgefnjkoklboaaGreatDoorDeepCells
import Derived.Test.YtlgefnjkoklboaaGreatDoorRows
import Derived.Test.YtlgefnjkoklboaaGreatDoorUse
import Derived.Test.YtlgefnjkoklboaaGreatDoorKitz
import Derived.Test.YtlgefnjkoklboaaGreatDoorLawKitz
import Derived.Test.YtlgefnjkoklboaaGreatDoorCapz
import Derived.Test.YtlgefnjkoklboaaGreatDoorNullFnz
import Derived.Test.YtlgefnjkoklboaaGreatDoorLowIxz
import Derived.Test.YtlgefnjkoklboaaGreatDoorDoorz
namespace Go.Proofs.YtlgefnjkoklboaaGreatDoor.Use
open Go.ChangeShapes Go.WideShapes Go.ChangeAt Go.RowKit Go.Sort Own
set_option linter.unusedVariables false
def rL1E (src : Int) (m : Nat) (tl : Int) (kl : Int) (ll : Int) (loc : Int) (kv : Nat) (v : Nat) (nd2 : Nat) (nd3 : Nat) (nd5 : Array Value) (nd6 : Array Value) (B11_19 : Nat) (B11_18 : Nat) (B11_17 : Nat) (B11_16 : Nat) (B11_15 : Nat) (B11_13 : Nat) (B11_12 : Nat) (B11_11 : Nat) (B11_10 : Nat) (B11_9 : Nat) (B11_7 : Nat) (B11_6 : Nat) (B11_4 : Nat) (B11_3 : Nat) (B11_2 : Nat) (B11 : Nat) (nd14 : Nat) (nd15 : Nat) (nd16 : Nat) (nd17 : Nat) (nd18 : Nat) (nd19 : Nat) (nd20 : Nat) (nd21 : Nat) (B22_1 : Nat) (B22 : Nat) : Nat → Rega.Atoms → Value
  | 0, α => .pointer (some ⟨nd14, 0, none⟩)
  | 1, α => .pointer (some ⟨nd14, 0, none⟩)
  | 2, α => .pointer (some ⟨nd14, 0, none⟩)
  | 3, α => .agg #[.iface 38 (.pointer (some ⟨nd16, 0, none⟩)), .int .i32 ll]
  | 4, α => .int .i32 ll
  | 5, α => .agg #[.int .u32 src, .int .u32 (m : Int)]
  | 6, α => .float .f64 kv
  | 7, α => .pointer (some ⟨B11_12, 0, none⟩)
  | 8, α => .pointer (some ⟨nd16, 0, none⟩)
  | 9, α => .pointer (some ⟨nd16, 0, none⟩)
  | _, _ => undef
def rL1Anc : Nat → List Nat
  | 1 => [0]
  | 2 => [0, 1]
  | 3 => [0, 1, 2]
  | 8 => [0, 1, 2, 3, 4, 5, 6, 7]
  | 9 => [0, 1, 2, 3, 4, 5, 6, 7, 8]
  | _ => []
def rL1Trn : Nat → List Nat
  | _ => []
def rL1Cnt : List (Nat × Nat) := []
def rL1R (src : Int) (m : Nat) (tl : Int) (kl : Int) (ll : Int) (loc : Int) (kv : Nat) (v : Nat) (nd2 : Nat) (nd3 : Nat) (nd5 : Array Value) (nd6 : Array Value) (B11_19 : Nat) (B11_18 : Nat) (B11_17 : Nat) (B11_16 : Nat) (B11_15 : Nat) (B11_13 : Nat) (B11_12 : Nat) (B11_11 : Nat) (B11_10 : Nat) (B11_9 : Nat) (B11_7 : Nat) (B11_6 : Nat) (B11_4 : Nat) (B11_3 : Nat) (B11_2 : Nat) (B11 : Nat) (nd14 : Nat) (nd15 : Nat) (nd16 : Nat) (nd17 : Nat) (nd18 : Nat) (nd19 : Nat) (nd20 : Nat) (nd21 : Nat) (B22_1 : Nat) (B22 : Nat) (L9 : Nat → Bool) (α : Rega.Atoms) (ix9 : Nat) : Rw := if ix9 = 999 then row (B22_1) 34 #[.iface 42 (.pointer (some ⟨nd14, 0, none⟩)), .int .i32 loc] else if ix9 = 1999 then row (B22) 34 #[.iface 42 (.pointer (some ⟨nd14, 0, none⟩)), .int .i32 loc] else if ix9 = 2999 then row (nd2) 178 nd5 else if ix9 = 3999 then row (nd3) 196 (bumped (bumped nd6 m (0 : Nat)) m (1 : Nat)) else if ix9 = 4999 then row (B11_12) 56 #[.iface 52 (.pointer (some ⟨B11_4, 0, none⟩)), .int .i32 tl, .iface 40 (.pointer (some ⟨B11_7, 0, none⟩)), .int .i32 kl, .int .i32 0, .int .u8 0, .bool false, .bool false, .bool false] else if ix9 = 5999 then row (B11_4) 180 #[.int .u32 src, .int .u32 (m : Int), .bool false, .bool false, .bool false] else if ix9 = 6999 then row (B11_7) 182 #[.float .f64 kv] else if ix9 = 7999 then row (nd14) 45 #[.iface 38 (.pointer (some ⟨nd16, 0, none⟩)), .int .i32 ll, .iface 42 (.pointer (some ⟨nd15, 0, none⟩)), .int .i32 ll, .int .u8 30, .bool false] else if ix9 = 8999 then row (nd15) 45 #[.iface 38 (.pointer (some ⟨nd17, 0, none⟩)), .int .i32 ll, .iface 40 (.pointer (some ⟨B11_16, 0, none⟩)), .int .i32 loc, .int .u8 37, .bool false] else if ix9 = 9999 then row (nd16) 56 #[.iface 52 (.pointer (some ⟨nd18, 0, none⟩)), .int .i32 ll, .iface 40 (.pointer (some ⟨nd19, 0, none⟩)), .int .i32 ll, .int .i32 0, .int .u8 0, .bool false, .bool false, .bool false] else if ix9 = 10999 then row (nd17) 56 #[.iface 52 (.pointer (some ⟨nd20, 0, none⟩)), .int .i32 ll, .iface 40 (.pointer (some ⟨nd21, 0, none⟩)), .int .i32 ll, .int .i32 0, .int .u8 0, .bool false, .bool false, .bool false] else if ix9 = 11999 then row (nd18) 180 #[.int .u32 src, .int .u32 (m : Int), .bool false, .bool false, .bool false] else if ix9 = 12999 then row (nd19) 182 #[.float .f64 kv] else if ix9 = 13999 then row (nd20) 180 #[.int .u32 src, .int .u32 (m : Int), .bool false, .bool false, .bool false] else if ix9 = 14999 then row (nd21) 182 #[.float .f64 kv] else if ix9 = 15999 then row (B11_19) 34 #[.iface 40 (.pointer (some ⟨B11_16, 0, none⟩)), .int .i32 loc] else if ix9 = 16999 then row (B11_18) 34 #[.iface 38 (.pointer (some ⟨B11_12, 0, none⟩)), .int .i32 ll] else if ix9 = 17999 then row (B11_17) 34 #[.iface 40 (.pointer (some ⟨B11_16, 0, none⟩)), .int .i32 loc] else if ix9 = 18999 then row (B11_16) 182 #[.float .f64 v] else if ix9 = 19999 then row (B11_15) 34 #[.iface 40 (.pointer (some ⟨B11_16, 0, none⟩)), .int .i32 loc] else if ix9 = 20999 then row (B11_13) 34 #[.iface 38 (.pointer (some ⟨B11_12, 0, none⟩)), .int .i32 ll] else if ix9 = 21999 then row (B11_11) 34 #[.iface 38 (.pointer (some ⟨B11_12, 0, none⟩)), .int .i32 ll] else if ix9 = 22999 then row (B11_10) 34 #[.iface 40 (.pointer (some ⟨B11_7, 0, none⟩)), .int .i32 kl] else if ix9 = 23999 then row (B11_9) 34 #[.iface 52 (.pointer (some ⟨B11_4, 0, none⟩)), .int .i32 tl] else if ix9 = 24999 then row (B11_6) 34 #[.iface 40 (.pointer (some ⟨B11_7, 0, none⟩)), .int .i32 kl] else if ix9 = 25999 then row (B11_3) 34 #[.iface 52 (.pointer (some ⟨B11_4, 0, none⟩)), .int .i32 tl] else if ix9 = 26999 then row (B11_2) 28 #[.int .u32 src, .int .u32 (m : Int)] else if ix9 = 27999 then row (B11) 28 #[.int .u32 src, .int .u32 (m : Int)] else (0, .map #[] 0)
theorem rL1_he (src : Int) (m : Nat) (tl : Int) (kl : Int) (ll : Int) (loc : Int) (kv : Nat) (v : Nat) (nd2 : Nat) (nd3 : Nat) (nd5 : Array Value) (nd6 : Array Value) (B11_19 : Nat) (B11_18 : Nat) (B11_17 : Nat) (B11_16 : Nat) (B11_15 : Nat) (B11_13 : Nat) (B11_12 : Nat) (B11_11 : Nat) (B11_10 : Nat) (B11_9 : Nat) (B11_7 : Nat) (B11_6 : Nat) (B11_4 : Nat) (B11_3 : Nat) (B11_2 : Nat) (B11 : Nat) (nd14 : Nat) (nd15 : Nat) (nd16 : Nat) (nd17 : Nat) (nd18 : Nat) (nd19 : Nat) (nd20 : Nat) (nd21 : Nat) (B22_1 : Nat) (B22 : Nat) : ∀ kk α α', (∀ j, (j % 1000 = kk ∨ j % 1000 ∈ rL1Anc kk) → α j = α' j) → rL1E src m tl kl ll loc kv v nd2 nd3 nd5 nd6 B11_19 B11_18 B11_17 B11_16 B11_15 B11_13 B11_12 B11_11 B11_10 B11_9 B11_7 B11_6 B11_4 B11_3 B11_2 B11 nd14 nd15 nd16 nd17 nd18 nd19 nd20 nd21 B22_1 B22 kk α = rL1E src m tl kl ll loc kv v nd2 nd3 nd5 nd6 B11_19 B11_18 B11_17 B11_16 B11_15 B11_13 B11_12 B11_11 B11_10 B11_9 B11_7 B11_6 B11_4 B11_3 B11_2 B11 nd14 nd15 nd16 nd17 nd18 nd19 nd20 nd21 B22_1 B22 kk α' := by
  intro kk α α' h
  match kk with
  | 0 => rfl
  | 1 => rfl
  | 2 => rfl
  | 3 => rfl
  | 4 => rfl
  | 5 => rfl
  | 6 => rfl
  | 7 => rfl
  | 8 => rfl
  | 9 => rfl
  | n + 10 => rfl
theorem rL1_st (src : Int) (m : Nat) (tl : Int) (kl : Int) (ll : Int) (loc : Int) (kv : Nat) (v : Nat) (nd2 : Nat) (nd3 : Nat) (nd5 : Array Value) (nd6 : Array Value) (B11_19 : Nat) (B11_18 : Nat) (B11_17 : Nat) (B11_16 : Nat) (B11_15 : Nat) (B11_13 : Nat) (B11_12 : Nat) (B11_11 : Nat) (B11_10 : Nat) (B11_9 : Nat) (B11_7 : Nat) (B11_6 : Nat) (B11_4 : Nat) (B11_3 : Nat) (B11_2 : Nat) (B11 : Nat) (nd14 : Nat) (nd15 : Nat) (nd16 : Nat) (nd17 : Nat) (nd18 : Nat) (nd19 : Nat) (nd20 : Nat) (nd21 : Nat) (B22_1 : Nat) (B22 : Nat) : Stable rL1Cnt 28 rL1Anc rL1Trn (rL1R src m tl kl ll loc kv v nd2 nd3 nd5 nd6 B11_19 B11_18 B11_17 B11_16 B11_15 B11_13 B11_12 B11_11 B11_10 B11_9 B11_7 B11_6 B11_4 B11_3 B11_2 B11 nd14 nd15 nd16 nd17 nd18 nd19 nd20 nd21 B22_1 B22) := by
  intro k9 L9 α α' ix9 hk hcl hα hact ht
  have hp := act_places hact
  replace hp : ix9 ∈ [999, 1999, 2999, 3999, 4999, 5999, 6999, 7999, 8999, 9999, 10999, 11999, 12999, 13999, 14999, 15999, 16999, 17999, 18999, 19999, 20999, 21999, 22999, 23999, 24999, 25999, 26999, 27999] := hp
  simp only [List.mem_cons, List.not_mem_nil, or_false] at hp
  rcases hp with rfl | rfl | rfl | rfl | rfl | rfl | rfl | rfl | rfl | rfl | rfl | rfl | rfl | rfl | rfl | rfl | rfl | rfl | rfl | rfl | rfl | rfl | rfl | rfl | rfl | rfl | rfl | rfl
  · rfl
  · rfl
  · rfl
  · rfl
  · rfl
  · rfl
  · rfl
  · rfl
  · rfl
  · rfl
  · rfl
  · rfl
  · rfl
  · rfl
  · rfl
  · rfl
  · rfl
  · rfl
  · rfl
  · rfl
  · rfl
  · rfl
  · rfl
  · rfl
  · rfl
  · rfl
  · rfl
  · rfl
def rL2E (src : Int) (m : Nat) (tl : Int) (kl : Int) (ll : Int) (loc : Int) (kv : Nat) (v : Nat) (nd2 : Nat) (nd3 : Nat) (nd5 : Array Value) (nd6 : Array Value) (B11_19 : Nat) (B11_18 : Nat) (B11_17 : Nat) (B11_16 : Nat) (B11_15 : Nat) (B11_13 : Nat) (B11_12 : Nat) (B11_11 : Nat) (B11_10 : Nat) (B11_9 : Nat) (B11_7 : Nat) (B11_6 : Nat) (B11_4 : Nat) (B11_3 : Nat) (B11_2 : Nat) (B11 : Nat) (nd14 : Nat) (nd15 : Nat) (nd16 : Nat) (nd17 : Nat) (nd18 : Nat) (nd19 : Nat) (nd20 : Nat) (nd21 : Nat) (B22_1 : Nat) (B22 : Nat) (B24 : Nat) : Nat → Rega.Atoms → Value
  | 0, α => .pointer (some ⟨nd15, 0, none⟩)
  | 1, α => .pointer (some ⟨nd15, 0, none⟩)
  | 2, α => .pointer (some ⟨nd15, 0, none⟩)
  | 3, α => .agg #[.iface 38 (.pointer (some ⟨nd17, 0, none⟩)), .int .i32 ll]
  | 4, α => .int .i32 ll
  | 5, α => .agg #[.int .u32 src, .int .u32 (m : Int)]
  | 6, α => .float .f64 kv
  | 7, α => .pointer (some ⟨B11_12, 0, none⟩)
  | 8, α => .pointer (some ⟨nd17, 0, none⟩)
  | 9, α => .pointer (some ⟨nd17, 0, none⟩)
  | _, _ => undef
def rL2Anc : Nat → List Nat
  | 1 => [0]
  | 2 => [0, 1]
  | 3 => [0, 1, 2]
  | 8 => [0, 1, 2, 3, 4, 5, 6, 7]
  | 9 => [0, 1, 2, 3, 4, 5, 6, 7, 8]
  | _ => []
def rL2Trn : Nat → List Nat
  | _ => []
def rL2Cnt : List (Nat × Nat) := []
def rL2R (src : Int) (m : Nat) (tl : Int) (kl : Int) (ll : Int) (loc : Int) (kv : Nat) (v : Nat) (nd2 : Nat) (nd3 : Nat) (nd5 : Array Value) (nd6 : Array Value) (B11_19 : Nat) (B11_18 : Nat) (B11_17 : Nat) (B11_16 : Nat) (B11_15 : Nat) (B11_13 : Nat) (B11_12 : Nat) (B11_11 : Nat) (B11_10 : Nat) (B11_9 : Nat) (B11_7 : Nat) (B11_6 : Nat) (B11_4 : Nat) (B11_3 : Nat) (B11_2 : Nat) (B11 : Nat) (nd14 : Nat) (nd15 : Nat) (nd16 : Nat) (nd17 : Nat) (nd18 : Nat) (nd19 : Nat) (nd20 : Nat) (nd21 : Nat) (B22_1 : Nat) (B22 : Nat) (B24 : Nat) (L9 : Nat → Bool) (α : Rega.Atoms) (ix9 : Nat) : Rw := if ix9 = 999 then row (B24) 34 #[.iface 42 (.pointer (some ⟨nd15, 0, none⟩)), .int .i32 ll] else if ix9 = 1999 then row (B22_1) 34 #[.iface 42 (.pointer (some ⟨nd14, 0, none⟩)), .int .i32 loc] else if ix9 = 2999 then row (B22) 34 #[.iface 42 (.pointer (some ⟨nd14, 0, none⟩)), .int .i32 loc] else if ix9 = 3999 then row (nd2) 178 nd5 else if ix9 = 4999 then row (nd3) 196 (bumped (bumped nd6 m (0 : Nat)) m (1 : Nat)) else if ix9 = 5999 then row (B11_12) 56 #[.iface 52 (.pointer (some ⟨B11_4, 0, none⟩)), .int .i32 tl, .iface 40 (.pointer (some ⟨B11_7, 0, none⟩)), .int .i32 kl, .int .i32 0, .int .u8 0, .bool false, .bool false, .bool false] else if ix9 = 6999 then row (B11_4) 180 #[.int .u32 src, .int .u32 (m : Int), .bool false, .bool false, .bool false] else if ix9 = 7999 then row (B11_7) 182 #[.float .f64 kv] else if ix9 = 8999 then row (nd14) 45 #[.iface 38 (.pointer (some ⟨nd16, 0, none⟩)), .int .i32 ll, .iface 42 (.pointer (some ⟨nd15, 0, none⟩)), .int .i32 ll, .int .u8 30, .bool false] else if ix9 = 9999 then row (nd15) 45 #[.iface 38 (.pointer (some ⟨nd17, 0, none⟩)), .int .i32 ll, .iface 40 (.pointer (some ⟨B11_16, 0, none⟩)), .int .i32 loc, .int .u8 37, .bool false] else if ix9 = 10999 then row (nd16) 56 #[.iface 52 (.pointer (some ⟨nd18, 0, none⟩)), .int .i32 ll, .iface 40 (.pointer (some ⟨nd19, 0, none⟩)), .int .i32 ll, .int .i32 0, .int .u8 0, .bool false, .bool false, .bool false] else if ix9 = 11999 then row (nd17) 56 #[.iface 52 (.pointer (some ⟨nd20, 0, none⟩)), .int .i32 ll, .iface 40 (.pointer (some ⟨nd21, 0, none⟩)), .int .i32 ll, .int .i32 0, .int .u8 0, .bool false, .bool false, .bool false] else if ix9 = 12999 then row (nd18) 180 #[.int .u32 src, .int .u32 (m : Int), .bool false, .bool false, .bool false] else if ix9 = 13999 then row (nd19) 182 #[.float .f64 kv] else if ix9 = 14999 then row (nd20) 180 #[.int .u32 src, .int .u32 (m : Int), .bool false, .bool false, .bool false] else if ix9 = 15999 then row (nd21) 182 #[.float .f64 kv] else if ix9 = 16999 then row (B11_19) 34 #[.iface 40 (.pointer (some ⟨B11_16, 0, none⟩)), .int .i32 loc] else if ix9 = 17999 then row (B11_18) 34 #[.iface 38 (.pointer (some ⟨B11_12, 0, none⟩)), .int .i32 ll] else if ix9 = 18999 then row (B11_17) 34 #[.iface 40 (.pointer (some ⟨B11_16, 0, none⟩)), .int .i32 loc] else if ix9 = 19999 then row (B11_16) 182 #[.float .f64 v] else if ix9 = 20999 then row (B11_15) 34 #[.iface 40 (.pointer (some ⟨B11_16, 0, none⟩)), .int .i32 loc] else if ix9 = 21999 then row (B11_13) 34 #[.iface 38 (.pointer (some ⟨B11_12, 0, none⟩)), .int .i32 ll] else if ix9 = 22999 then row (B11_11) 34 #[.iface 38 (.pointer (some ⟨B11_12, 0, none⟩)), .int .i32 ll] else if ix9 = 23999 then row (B11_10) 34 #[.iface 40 (.pointer (some ⟨B11_7, 0, none⟩)), .int .i32 kl] else if ix9 = 24999 then row (B11_9) 34 #[.iface 52 (.pointer (some ⟨B11_4, 0, none⟩)), .int .i32 tl] else if ix9 = 25999 then row (B11_6) 34 #[.iface 40 (.pointer (some ⟨B11_7, 0, none⟩)), .int .i32 kl] else if ix9 = 26999 then row (B11_3) 34 #[.iface 52 (.pointer (some ⟨B11_4, 0, none⟩)), .int .i32 tl] else if ix9 = 27999 then row (B11_2) 28 #[.int .u32 src, .int .u32 (m : Int)] else if ix9 = 28999 then row (B11) 28 #[.int .u32 src, .int .u32 (m : Int)] else (0, .map #[] 0)
theorem rL2_he (src : Int) (m : Nat) (tl : Int) (kl : Int) (ll : Int) (loc : Int) (kv : Nat) (v : Nat) (nd2 : Nat) (nd3 : Nat) (nd5 : Array Value) (nd6 : Array Value) (B11_19 : Nat) (B11_18 : Nat) (B11_17 : Nat) (B11_16 : Nat) (B11_15 : Nat) (B11_13 : Nat) (B11_12 : Nat) (B11_11 : Nat) (B11_10 : Nat) (B11_9 : Nat) (B11_7 : Nat) (B11_6 : Nat) (B11_4 : Nat) (B11_3 : Nat) (B11_2 : Nat) (B11 : Nat) (nd14 : Nat) (nd15 : Nat) (nd16 : Nat) (nd17 : Nat) (nd18 : Nat) (nd19 : Nat) (nd20 : Nat) (nd21 : Nat) (B22_1 : Nat) (B22 : Nat) (B24 : Nat) : ∀ kk α α', (∀ j, (j % 1000 = kk ∨ j % 1000 ∈ rL2Anc kk) → α j = α' j) → rL2E src m tl kl ll loc kv v nd2 nd3 nd5 nd6 B11_19 B11_18 B11_17 B11_16 B11_15 B11_13 B11_12 B11_11 B11_10 B11_9 B11_7 B11_6 B11_4 B11_3 B11_2 B11 nd14 nd15 nd16 nd17 nd18 nd19 nd20 nd21 B22_1 B22 B24 kk α = rL2E src m tl kl ll loc kv v nd2 nd3 nd5 nd6 B11_19 B11_18 B11_17 B11_16 B11_15 B11_13 B11_12 B11_11 B11_10 B11_9 B11_7 B11_6 B11_4 B11_3 B11_2 B11 nd14 nd15 nd16 nd17 nd18 nd19 nd20 nd21 B22_1 B22 B24 kk α' := by
  intro kk α α' h
  match kk with
  | 0 => rfl
  | 1 => rfl
  | 2 => rfl
  | 3 => rfl
  | 4 => rfl
  | 5 => rfl
  | 6 => rfl
  | 7 => rfl
  | 8 => rfl
  | 9 => rfl
  | n + 10 => rfl
theorem rL2_st (src : Int) (m : Nat) (tl : Int) (kl : Int) (ll : Int) (loc : Int) (kv : Nat) (v : Nat) (nd2 : Nat) (nd3 : Nat) (nd5 : Array Value) (nd6 : Array Value) (B11_19 : Nat) (B11_18 : Nat) (B11_17 : Nat) (B11_16 : Nat) (B11_15 : Nat) (B11_13 : Nat) (B11_12 : Nat) (B11_11 : Nat) (B11_10 : Nat) (B11_9 : Nat) (B11_7 : Nat) (B11_6 : Nat) (B11_4 : Nat) (B11_3 : Nat) (B11_2 : Nat) (B11 : Nat) (nd14 : Nat) (nd15 : Nat) (nd16 : Nat) (nd17 : Nat) (nd18 : Nat) (nd19 : Nat) (nd20 : Nat) (nd21 : Nat) (B22_1 : Nat) (B22 : Nat) (B24 : Nat) : Stable rL2Cnt 29 rL2Anc rL2Trn (rL2R src m tl kl ll loc kv v nd2 nd3 nd5 nd6 B11_19 B11_18 B11_17 B11_16 B11_15 B11_13 B11_12 B11_11 B11_10 B11_9 B11_7 B11_6 B11_4 B11_3 B11_2 B11 nd14 nd15 nd16 nd17 nd18 nd19 nd20 nd21 B22_1 B22 B24) := by
  intro k9 L9 α α' ix9 hk hcl hα hact ht
  have hp := act_places hact
  replace hp : ix9 ∈ [999, 1999, 2999, 3999, 4999, 5999, 6999, 7999, 8999, 9999, 10999, 11999, 12999, 13999, 14999, 15999, 16999, 17999, 18999, 19999, 20999, 21999, 22999, 23999, 24999, 25999, 26999, 27999, 28999] := hp
  simp only [List.mem_cons, List.not_mem_nil, or_false] at hp
  rcases hp with rfl | rfl | rfl | rfl | rfl | rfl | rfl | rfl | rfl | rfl | rfl | rfl | rfl | rfl | rfl | rfl | rfl | rfl | rfl | rfl | rfl | rfl | rfl | rfl | rfl | rfl | rfl | rfl | rfl
  · rfl
  · rfl
  · rfl
  · rfl
  · rfl
  · rfl
  · rfl
  · rfl
  · rfl
  · rfl
  · rfl
  · rfl
  · rfl
  · rfl
  · rfl
  · rfl
  · rfl
  · rfl
  · rfl
  · rfl
  · rfl
  · rfl
  · rfl
  · rfl
  · rfl
  · rfl
  · rfl
  · rfl
  · rfl
def law25yesPost (x src : Int) (m : Nat) (tl kl ll loc : Int) (kv v : Nat) (w0 : World) (X : Nat → Obj → Prop) (e : Ending) (w' : World) : Prop :=
  e = .returned (.bool true) ∧ Own w0 w' [] X
set_option maxRecDepth 100000 in
set_option maxHeartbeats 1000000 in
theorem law25yes (x src : Int) (m : Nat) (tl kl ll loc : Int) (kv v : Nat) (w0 w : World) (X : Nat → Obj → Prop) (hO : Own w0 w [] X) (hm : m ≤ 65536) (hx1 : (bits BinOp.and IntKind.u64 x 4398046511104 != 0) = false) (hx2 : (bits BinOp.and IntKind.u64 x 137438953472 != 0) = true) :
    Calls Tryz.prog 3 #[.int .u64 x, .int .u32 src, .int .u32 (m : Int), .int .i32 tl, .int .i32 kl, .int .i32 ll, .int .i32 loc, .float .f64 kv, .float .f64 v] w (law25yesPost x src m tl kl ll loc kv v w0 X) := by
  go_enter Tryz.func3, Tryz.ntmps3
  have hq : (m : Int) ≤ 65536 := by omega
  go_wp2_with fail
  rw [show ((m : Int) + 1) = ((m + 1 : Nat) : Int) from rfl]
  have hL := hO.apart
  have hX := hO.apartX
  have HL := Lib.hid hL
  have HX := Lib.hid hX
  clear hL hX
  have hP9 := hO.pick [] (by decide)
  have h9_hn : (m + 1 : Nat) ≤ 65537 := (by first | assumption | omega | (simp; done) | (simp; omega))
  have T9 := newParserO x (m + 1 : Nat) 0 0 _ _ _ hP9 h9_hn
  refine Calls.mono T9 ?_
  clear hP9 T9 h9_hn
  rintro e u1 ⟨nd2, nd3, nd4, nd5, nd6, rfl, pr7, pr8, pr9, pr10, hQ⟩
  have hN : Own w0 u1 [row (nd2) 178 nd5, row (nd3) 196 nd6, (nd4, .map #[⟨.string ⟨#[95, 95, 112, 111, 119]⟩, .agg #[.int .i32 0, .int .u32 0, .int .u32 0], 0⟩] 1)] X := hQ.back HL.out HX.out [] (by decide) (by decide)
  clear hQ HL HX hO
  have hO := hN
  clear hN
  go_wp2_with (first | (go_at_call 6; go_in) | (go_at_call 7; go_in) | (go_at_call 5; go_in) | (go_at_call 8; go_in) | (go_at_call 9; go_in) | (go_at_call 13; go_in) | (go_at_call 15; go_in) | (go_at_call 11; go_in))
  generalize hW : World.alloc _ _ = W12
  have hN : Own w0 W12 [row (u1.heap.size + 1 + 1 + 1 + 1 + 1 + 1 + 1 + 1 + 1 + 1 + 1 + 1 + 1 + 1 + 1 + 1 + 1 + 1 + 1 + 1) 45 #[.iface 38 (.pointer (some ⟨u1.heap.size + 1 + 1 + 1 + 1 + 1 + 1 + 1 + 1 + 1 + 1 + 1 + 1, 0, none⟩)), .int .i32 ll, .iface 40 (.pointer (some ⟨u1.heap.size + 1 + 1 + 1 + 1 + 1 + 1 + 1 + 1 + 1 + 1 + 1 + 1 + 1 + 1 + 1 + 1, 0, none⟩)), .int .i32 loc, .int .u8 0, .bool false], row (u1.heap.size + 1 + 1 + 1 + 1 + 1 + 1 + 1 + 1 + 1 + 1 + 1 + 1 + 1 + 1 + 1 + 1 + 1 + 1 + 1) 34 #[.iface 40 (.pointer (some ⟨u1.heap.size + 1 + 1 + 1 + 1 + 1 + 1 + 1 + 1 + 1 + 1 + 1 + 1 + 1 + 1 + 1 + 1, 0, none⟩)), .int .i32 loc], row (u1.heap.size + 1 + 1 + 1 + 1 + 1 + 1 + 1 + 1 + 1 + 1 + 1 + 1 + 1 + 1 + 1 + 1 + 1 + 1) 34 #[.iface 38 (.pointer (some ⟨u1.heap.size + 1 + 1 + 1 + 1 + 1 + 1 + 1 + 1 + 1 + 1 + 1 + 1, 0, none⟩)), .int .i32 ll], row (u1.heap.size + 1 + 1 + 1 + 1 + 1 + 1 + 1 + 1 + 1 + 1 + 1 + 1 + 1 + 1 + 1 + 1 + 1) 34 #[.iface 40 (.pointer (some ⟨u1.heap.size + 1 + 1 + 1 + 1 + 1 + 1 + 1 + 1 + 1 + 1 + 1 + 1 + 1 + 1 + 1 + 1, 0, none⟩)), .int .i32 loc], row (u1.heap.size + 1 + 1 + 1 + 1 + 1 + 1 + 1 + 1 + 1 + 1 + 1 + 1 + 1 + 1 + 1 + 1) 182 #[.float .f64 v], row (u1.heap.size + 1 + 1 + 1 + 1 + 1 + 1 + 1 + 1 + 1 + 1 + 1 + 1 + 1 + 1 + 1) 34 #[.iface 40 (.pointer (some ⟨u1.heap.size + 1 + 1 + 1 + 1 + 1 + 1 + 1 + 1 + 1 + 1 + 1 + 1 + 1 + 1 + 1 + 1, 0, none⟩)), .int .i32 loc], row (u1.heap.size + 1 + 1 + 1 + 1 + 1 + 1 + 1 + 1 + 1 + 1 + 1 + 1 + 1 + 1) 32 #[.int .i32 loc], row (u1.heap.size + 1 + 1 + 1 + 1 + 1 + 1 + 1 + 1 + 1 + 1 + 1 + 1 + 1) 34 #[.iface 38 (.pointer (some ⟨u1.heap.size + 1 + 1 + 1 + 1 + 1 + 1 + 1 + 1 + 1 + 1 + 1 + 1, 0, none⟩)), .int .i32 ll], row (u1.heap.size + 1 + 1 + 1 + 1 + 1 + 1 + 1 + 1 + 1 + 1 + 1 + 1) 56 #[.iface 52 (.pointer (some ⟨u1.heap.size + 1 + 1 + 1 + 1, 0, none⟩)), .int .i32 tl, .iface 40 (.pointer (some ⟨u1.heap.size + 1 + 1 + 1 + 1 + 1 + 1 + 1, 0, none⟩)), .int .i32 kl, .int .i32 0, .int .u8 0, .bool false, .bool false, .bool false], row (u1.heap.size + 1 + 1 + 1 + 1 + 1 + 1 + 1 + 1 + 1 + 1 + 1) 34 #[.iface 38 (.pointer (some ⟨u1.heap.size + 1 + 1 + 1 + 1 + 1 + 1 + 1 + 1 + 1 + 1 + 1 + 1, 0, none⟩)), .int .i32 ll], row (u1.heap.size + 1 + 1 + 1 + 1 + 1 + 1 + 1 + 1 + 1 + 1) 34 #[.iface 40 (.pointer (some ⟨u1.heap.size + 1 + 1 + 1 + 1 + 1 + 1 + 1, 0, none⟩)), .int .i32 kl], row (u1.heap.size + 1 + 1 + 1 + 1 + 1 + 1 + 1 + 1 + 1) 34 #[.iface 52 (.pointer (some ⟨u1.heap.size + 1 + 1 + 1 + 1, 0, none⟩)), .int .i32 tl], row (u1.heap.size + 1 + 1 + 1 + 1 + 1 + 1 + 1 + 1) 32 #[.int .i32 ll], row (u1.heap.size + 1 + 1 + 1 + 1 + 1 + 1 + 1) 182 #[.float .f64 kv], row (u1.heap.size + 1 + 1 + 1 + 1 + 1 + 1) 34 #[.iface 40 (.pointer (some ⟨u1.heap.size + 1 + 1 + 1 + 1 + 1 + 1 + 1, 0, none⟩)), .int .i32 kl], row (u1.heap.size + 1 + 1 + 1 + 1 + 1) 32 #[.int .i32 kl], row (u1.heap.size + 1 + 1 + 1 + 1) 180 #[.int .u32 src, .int .u32 (m : Int), .bool false, .bool false, .bool false], row (u1.heap.size + 1 + 1 + 1) 34 #[.iface 52 (.pointer (some ⟨u1.heap.size + 1 + 1 + 1 + 1, 0, none⟩)), .int .i32 tl], row (u1.heap.size + 1 + 1) 28 #[.int .u32 src, .int .u32 (m : Int)], row (u1.heap.size + 1) 32 #[.int .i32 tl], row (u1.heap.size) 28 #[.int .u32 src, .int .u32 (m : Int)], row (nd2) 178 nd5, row (nd3) 196 nd6, (nd4, .map #[⟨.string ⟨#[95, 95, 112, 111, 119]⟩, .agg #[.int .i32 0, .int .u32 0, .int .u32 0], 0⟩] 1)] X := by
    rw [← hW]
    exact (((((((((((((((((((((hO).alloc' _ (u1.heap.size) (by simp)).alloc' _ (u1.heap.size + 1) (by simp)).alloc' _ (u1.heap.size + 1 + 1) (by simp)).alloc' _ (u1.heap.size + 1 + 1 + 1) (by simp)).alloc' _ (u1.heap.size + 1 + 1 + 1 + 1) (by simp)).alloc' _ (u1.heap.size + 1 + 1 + 1 + 1 + 1) (by simp)).alloc' _ (u1.heap.size + 1 + 1 + 1 + 1 + 1 + 1) (by simp)).alloc' _ (u1.heap.size + 1 + 1 + 1 + 1 + 1 + 1 + 1) (by simp)).alloc' _ (u1.heap.size + 1 + 1 + 1 + 1 + 1 + 1 + 1 + 1) (by simp)).alloc' _ (u1.heap.size + 1 + 1 + 1 + 1 + 1 + 1 + 1 + 1 + 1) (by simp)).alloc' _ (u1.heap.size + 1 + 1 + 1 + 1 + 1 + 1 + 1 + 1 + 1 + 1) (by simp)).alloc' _ (u1.heap.size + 1 + 1 + 1 + 1 + 1 + 1 + 1 + 1 + 1 + 1 + 1) (by simp)).alloc' _ (u1.heap.size + 1 + 1 + 1 + 1 + 1 + 1 + 1 + 1 + 1 + 1 + 1 + 1) (by simp)).alloc' _ (u1.heap.size + 1 + 1 + 1 + 1 + 1 + 1 + 1 + 1 + 1 + 1 + 1 + 1 + 1) (by simp)).alloc' _ (u1.heap.size + 1 + 1 + 1 + 1 + 1 + 1 + 1 + 1 + 1 + 1 + 1 + 1 + 1 + 1) (by simp)).alloc' _ (u1.heap.size + 1 + 1 + 1 + 1 + 1 + 1 + 1 + 1 + 1 + 1 + 1 + 1 + 1 + 1 + 1) (by simp)).alloc' _ (u1.heap.size + 1 + 1 + 1 + 1 + 1 + 1 + 1 + 1 + 1 + 1 + 1 + 1 + 1 + 1 + 1 + 1) (by simp)).alloc' _ (u1.heap.size + 1 + 1 + 1 + 1 + 1 + 1 + 1 + 1 + 1 + 1 + 1 + 1 + 1 + 1 + 1 + 1 + 1) (by simp)).alloc' _ (u1.heap.size + 1 + 1 + 1 + 1 + 1 + 1 + 1 + 1 + 1 + 1 + 1 + 1 + 1 + 1 + 1 + 1 + 1 + 1) (by simp)).alloc' _ (u1.heap.size + 1 + 1 + 1 + 1 + 1 + 1 + 1 + 1 + 1 + 1 + 1 + 1 + 1 + 1 + 1 + 1 + 1 + 1 + 1) (by simp)).alloc' _ (u1.heap.size + 1 + 1 + 1 + 1 + 1 + 1 + 1 + 1 + 1 + 1 + 1 + 1 + 1 + 1 + 1 + 1 + 1 + 1 + 1 + 1) (by simp)
  clear hW hO
  generalize u1.heap.size + 1 + 1 + 1 + 1 + 1 + 1 + 1 + 1 + 1 + 1 + 1 + 1 + 1 + 1 + 1 + 1 + 1 + 1 + 1 + 1 = B11_20 at hN ⊢
  generalize u1.heap.size + 1 + 1 + 1 + 1 + 1 + 1 + 1 + 1 + 1 + 1 + 1 + 1 + 1 + 1 + 1 + 1 + 1 + 1 + 1 = B11_19 at hN ⊢
  generalize u1.heap.size + 1 + 1 + 1 + 1 + 1 + 1 + 1 + 1 + 1 + 1 + 1 + 1 + 1 + 1 + 1 + 1 + 1 + 1 = B11_18 at hN ⊢
  generalize u1.heap.size + 1 + 1 + 1 + 1 + 1 + 1 + 1 + 1 + 1 + 1 + 1 + 1 + 1 + 1 + 1 + 1 + 1 = B11_17 at hN ⊢
  generalize u1.heap.size + 1 + 1 + 1 + 1 + 1 + 1 + 1 + 1 + 1 + 1 + 1 + 1 + 1 + 1 + 1 + 1 = B11_16 at hN ⊢
  generalize u1.heap.size + 1 + 1 + 1 + 1 + 1 + 1 + 1 + 1 + 1 + 1 + 1 + 1 + 1 + 1 + 1 = B11_15 at hN ⊢
  generalize u1.heap.size + 1 + 1 + 1 + 1 + 1 + 1 + 1 + 1 + 1 + 1 + 1 + 1 + 1 + 1 = B11_14 at hN ⊢
  generalize u1.heap.size + 1 + 1 + 1 + 1 + 1 + 1 + 1 + 1 + 1 + 1 + 1 + 1 + 1 = B11_13 at hN ⊢
  generalize u1.heap.size + 1 + 1 + 1 + 1 + 1 + 1 + 1 + 1 + 1 + 1 + 1 + 1 = B11_12 at hN ⊢
  generalize u1.heap.size + 1 + 1 + 1 + 1 + 1 + 1 + 1 + 1 + 1 + 1 + 1 = B11_11 at hN ⊢
  generalize u1.heap.size + 1 + 1 + 1 + 1 + 1 + 1 + 1 + 1 + 1 + 1 = B11_10 at hN ⊢
  generalize u1.heap.size + 1 + 1 + 1 + 1 + 1 + 1 + 1 + 1 + 1 = B11_9 at hN ⊢
  generalize u1.heap.size + 1 + 1 + 1 + 1 + 1 + 1 + 1 + 1 = B11_8 at hN ⊢
  generalize u1.heap.size + 1 + 1 + 1 + 1 + 1 + 1 + 1 = B11_7 at hN ⊢
  generalize u1.heap.size + 1 + 1 + 1 + 1 + 1 + 1 = B11_6 at hN ⊢
  generalize u1.heap.size + 1 + 1 + 1 + 1 + 1 = B11_5 at hN ⊢
  generalize u1.heap.size + 1 + 1 + 1 + 1 = B11_4 at hN ⊢
  generalize u1.heap.size + 1 + 1 + 1 = B11_3 at hN ⊢
  generalize u1.heap.size + 1 + 1 = B11_2 at hN ⊢
  generalize u1.heap.size + 1 = B11_1 at hN ⊢
  generalize u1.heap.size = B11 at hN ⊢
  have hO := hN
  clear hN
  have hc9 : nd6[m * 10 + 4]? = some (.int .u32 ((0 : Nat) : Int)) := pr10.2 m (by omega)
  have hC1 : Cnt (bumped nd6 m (0 : Nat)) (m + 1) (bump (fun _ => 0) m) := pr10.bumped (by omega) rfl
  have hv8 : bump (fun _ => 0) m m = (1 : Nat) := by simp [bump]
  have hd9 : (bumped nd6 m (0 : Nat))[m * 10 + 4]? = some (.int .u32 ((1 : Nat) : Int)) := by
    have := hC1.2 m (by omega)
    rwa [hv8] at this
  have hC2 : Cnt (bumped (bumped nd6 m (0 : Nat)) m (1 : Nat)) (m + 1) (bump (bump (fun _ => 0) m) m) := hC1.bumped (by omega) hv8
  have HC2 := Lib.hid hC2
  clear hC2 hC1 hv8
  have hL := hO.apart
  have hX := hO.apartX
  have HL := Lib.hid hL
  have HX := Lib.hid hX
  clear hL hX
  have hP9 := hO.pick [21, 22, 0, 8, 16, 13] (by decide)
  have h9_hn : (m + 1 : Nat) ≤ 4294967295 := (by first | assumption | omega | (simp; done) | (simp; omega))
  have h9_hi : m < (m + 1 : Nat) := (by first | assumption | omega | (simp; done) | (simp; omega))
  have h9_hcm : (0 : Nat) < 4294967295 := (by first | assumption | omega | (simp; done) | (simp; omega))
  have h9_hczm : (1 : Nat) < 4294967295 := (by first | assumption | omega | (simp; done) | (simp; omega))
  have T9 := doorNa nd2 nd3 (m + 1 : Nat) (m + 1 : Nat) nd5 nd6 x m (0 : Nat) (1 : Nat) src B11_4 B11_12 tl B11_7 kl kv B11_20 ll 40 B11_16 loc 0 false loc _ _ _ hP9 pr7 h9_hn h9_hi hc9 h9_hcm hd9 h9_hczm pr8 hx1 hx2
  refine Calls.mono T9 ?_
  clear hP9 T9 h9_hn h9_hi h9_hcm h9_hczm
  rintro e u13 ⟨nd14, nd15, nd16, nd17, nd18, nd19, nd20, nd21, rfl, hQ⟩
  have hN : Own w0 u13 [row (nd2) 178 nd5, row (nd3) 196 (bumped (bumped nd6 m (0 : Nat)) m (1 : Nat)), row (B11_20) 45 #[.iface 38 (.pointer (some ⟨B11_12, 0, none⟩)), .int .i32 ll, .iface 40 (.pointer (some ⟨B11_16, 0, none⟩)), .int .i32 loc, .int .u8 0, .bool false], row (B11_12) 56 #[.iface 52 (.pointer (some ⟨B11_4, 0, none⟩)), .int .i32 tl, .iface 40 (.pointer (some ⟨B11_7, 0, none⟩)), .int .i32 kl, .int .i32 0, .int .u8 0, .bool false, .bool false, .bool false], row (B11_4) 180 #[.int .u32 src, .int .u32 (m : Int), .bool false, .bool false, .bool false], row (B11_7) 182 #[.float .f64 kv], row (nd14) 45 #[.iface 38 (.pointer (some ⟨nd16, 0, none⟩)), .int .i32 ll, .iface 42 (.pointer (some ⟨nd15, 0, none⟩)), .int .i32 ll, .int .u8 30, .bool false], row (nd15) 45 #[.iface 38 (.pointer (some ⟨nd17, 0, none⟩)), .int .i32 ll, .iface 40 (.pointer (some ⟨B11_16, 0, none⟩)), .int .i32 loc, .int .u8 37, .bool false], row (nd16) 56 #[.iface 52 (.pointer (some ⟨nd18, 0, none⟩)), .int .i32 ll, .iface 40 (.pointer (some ⟨nd19, 0, none⟩)), .int .i32 ll, .int .i32 0, .int .u8 0, .bool false, .bool false, .bool false], row (nd17) 56 #[.iface 52 (.pointer (some ⟨nd20, 0, none⟩)), .int .i32 ll, .iface 40 (.pointer (some ⟨nd21, 0, none⟩)), .int .i32 ll, .int .i32 0, .int .u8 0, .bool false, .bool false, .bool false], row (nd18) 180 #[.int .u32 src, .int .u32 (m : Int), .bool false, .bool false, .bool false], row (nd19) 182 #[.float .f64 kv], row (nd20) 180 #[.int .u32 src, .int .u32 (m : Int), .bool false, .bool false, .bool false], row (nd21) 182 #[.float .f64 kv], row (B11_19) 34 #[.iface 40 (.pointer (some ⟨B11_16, 0, none⟩)), .int .i32 loc], row (B11_18) 34 #[.iface 38 (.pointer (some ⟨B11_12, 0, none⟩)), .int .i32 ll], row (B11_17) 34 #[.iface 40 (.pointer (some ⟨B11_16, 0, none⟩)), .int .i32 loc], row (B11_16) 182 #[.float .f64 v], row (B11_15) 34 #[.iface 40 (.pointer (some ⟨B11_16, 0, none⟩)), .int .i32 loc], row (B11_14) 32 #[.int .i32 loc], row (B11_13) 34 #[.iface 38 (.pointer (some ⟨B11_12, 0, none⟩)), .int .i32 ll], row (B11_11) 34 #[.iface 38 (.pointer (some ⟨B11_12, 0, none⟩)), .int .i32 ll], row (B11_10) 34 #[.iface 40 (.pointer (some ⟨B11_7, 0, none⟩)), .int .i32 kl], row (B11_9) 34 #[.iface 52 (.pointer (some ⟨B11_4, 0, none⟩)), .int .i32 tl], row (B11_8) 32 #[.int .i32 ll], row (B11_6) 34 #[.iface 40 (.pointer (some ⟨B11_7, 0, none⟩)), .int .i32 kl], row (B11_5) 32 #[.int .i32 kl], row (B11_3) 34 #[.iface 52 (.pointer (some ⟨B11_4, 0, none⟩)), .int .i32 tl], row (B11_2) 28 #[.int .u32 src, .int .u32 (m : Int)], row (B11_1) 32 #[.int .i32 tl], row (B11) 28 #[.int .u32 src, .int .u32 (m : Int)], (nd4, .map #[⟨.string ⟨#[95, 95, 112, 111, 119]⟩, .agg #[.int .i32 0, .int .u32 0, .int .u32 0], 0⟩] 1)] X := hQ.back HL.out HX.out [1, 2, 3, 4, 5, 6, 7, 9, 10, 11, 12, 14, 15, 17, 18, 19, 20, 23] (by decide) (by decide)
  clear hQ HL HX hO
  have hO := hN
  clear hN
  clear hc9 hd9
  have hN : Own w0 u13 [row (nd2) 178 nd5, row (nd3) 196 (bumped (bumped nd6 m (0 : Nat)) m (1 : Nat)), row (B11_12) 56 #[.iface 52 (.pointer (some ⟨B11_4, 0, none⟩)), .int .i32 tl, .iface 40 (.pointer (some ⟨B11_7, 0, none⟩)), .int .i32 kl, .int .i32 0, .int .u8 0, .bool false, .bool false, .bool false], row (B11_4) 180 #[.int .u32 src, .int .u32 (m : Int), .bool false, .bool false, .bool false], row (B11_7) 182 #[.float .f64 kv], row (nd14) 45 #[.iface 38 (.pointer (some ⟨nd16, 0, none⟩)), .int .i32 ll, .iface 42 (.pointer (some ⟨nd15, 0, none⟩)), .int .i32 ll, .int .u8 30, .bool false], row (nd15) 45 #[.iface 38 (.pointer (some ⟨nd17, 0, none⟩)), .int .i32 ll, .iface 40 (.pointer (some ⟨B11_16, 0, none⟩)), .int .i32 loc, .int .u8 37, .bool false], row (nd16) 56 #[.iface 52 (.pointer (some ⟨nd18, 0, none⟩)), .int .i32 ll, .iface 40 (.pointer (some ⟨nd19, 0, none⟩)), .int .i32 ll, .int .i32 0, .int .u8 0, .bool false, .bool false, .bool false], row (nd17) 56 #[.iface 52 (.pointer (some ⟨nd20, 0, none⟩)), .int .i32 ll, .iface 40 (.pointer (some ⟨nd21, 0, none⟩)), .int .i32 ll, .int .i32 0, .int .u8 0, .bool false, .bool false, .bool false], row (nd18) 180 #[.int .u32 src, .int .u32 (m : Int), .bool false, .bool false, .bool false], row (nd19) 182 #[.float .f64 kv], row (nd20) 180 #[.int .u32 src, .int .u32 (m : Int), .bool false, .bool false, .bool false], row (nd21) 182 #[.float .f64 kv], row (B11_19) 34 #[.iface 40 (.pointer (some ⟨B11_16, 0, none⟩)), .int .i32 loc], row (B11_18) 34 #[.iface 38 (.pointer (some ⟨B11_12, 0, none⟩)), .int .i32 ll], row (B11_17) 34 #[.iface 40 (.pointer (some ⟨B11_16, 0, none⟩)), .int .i32 loc], row (B11_16) 182 #[.float .f64 v], row (B11_15) 34 #[.iface 40 (.pointer (some ⟨B11_16, 0, none⟩)), .int .i32 loc], row (B11_13) 34 #[.iface 38 (.pointer (some ⟨B11_12, 0, none⟩)), .int .i32 ll], row (B11_11) 34 #[.iface 38 (.pointer (some ⟨B11_12, 0, none⟩)), .int .i32 ll], row (B11_10) 34 #[.iface 40 (.pointer (some ⟨B11_7, 0, none⟩)), .int .i32 kl], row (B11_9) 34 #[.iface 52 (.pointer (some ⟨B11_4, 0, none⟩)), .int .i32 tl], row (B11_6) 34 #[.iface 40 (.pointer (some ⟨B11_7, 0, none⟩)), .int .i32 kl], row (B11_3) 34 #[.iface 52 (.pointer (some ⟨B11_4, 0, none⟩)), .int .i32 tl], row (B11_2) 28 #[.int .u32 src, .int .u32 (m : Int)], row (B11) 28 #[.int .u32 src, .int .u32 (m : Int)]] X := hO.sub [0, 1, 3, 4, 5, 6, 7, 8, 9, 10, 11, 12, 13, 14, 15, 16, 17, 18, 20, 21, 22, 23, 25, 27, 28, 30] (by decide)
  clear hO
  have hO := hN
  clear hN
  have c9_2_0 : u13.cell? ⟨B11_12, 0, none⟩ = some (.iface 52 (.pointer (some ⟨B11_4, 0, none⟩))) := hO.cell 2 rfl 0 rfl
  have c9_2_1 : u13.cell? ⟨B11_12, 1, none⟩ = some (.int .i32 tl) := hO.cell 2 rfl 1 rfl
  have c9_2_2 : u13.cell? ⟨B11_12, 2, none⟩ = some (.iface 40 (.pointer (some ⟨B11_7, 0, none⟩))) := hO.cell 2 rfl 2 rfl
  have c9_2_3 : u13.cell? ⟨B11_12, 3, none⟩ = some (.int .i32 kl) := hO.cell 2 rfl 3 rfl
  have c9_2_4 : u13.cell? ⟨B11_12, 4, none⟩ = some (.int .i32 0) := hO.cell 2 rfl 4 rfl
  have c9_2_5 : u13.cell? ⟨B11_12, 5, none⟩ = some (.int .u8 0) := hO.cell 2 rfl 5 rfl
  have c9_2_6 : u13.cell? ⟨B11_12, 6, none⟩ = some (.bool false) := hO.cell 2 rfl 6 rfl
  have c9_2_7 : u13.cell? ⟨B11_12, 7, none⟩ = some (.bool false) := hO.cell 2 rfl 7 rfl
  have c9_2_8 : u13.cell? ⟨B11_12, 8, none⟩ = some (.bool false) := hO.cell 2 rfl 8 rfl
  have lt9_2 : B11_12 < u13.heap.size := hO.lt 2 rfl
  have y9_2 : ∀ o, u13.frozen? ⟨B11_12, o, none⟩ = false := hO.free 2 rfl
  have c9_3_0 : u13.cell? ⟨B11_4, 0, none⟩ = some (.int .u32 src) := hO.cell 3 rfl 0 rfl
  have c9_3_1 : u13.cell? ⟨B11_4, 1, none⟩ = some (.int .u32 (m : Int)) := hO.cell 3 rfl 1 rfl
  have c9_3_2 : u13.cell? ⟨B11_4, 2, none⟩ = some (.bool false) := hO.cell 3 rfl 2 rfl
  have c9_3_3 : u13.cell? ⟨B11_4, 3, none⟩ = some (.bool false) := hO.cell 3 rfl 3 rfl
  have c9_3_4 : u13.cell? ⟨B11_4, 4, none⟩ = some (.bool false) := hO.cell 3 rfl 4 rfl
  have lt9_3 : B11_4 < u13.heap.size := hO.lt 3 rfl
  have y9_3 : ∀ o, u13.frozen? ⟨B11_4, o, none⟩ = false := hO.free 3 rfl
  have c9_4_0 : u13.cell? ⟨B11_7, 0, none⟩ = some (.float .f64 kv) := hO.cell 4 rfl 0 rfl
  have lt9_4 : B11_7 < u13.heap.size := hO.lt 4 rfl
  have y9_4 : ∀ o, u13.frozen? ⟨B11_7, o, none⟩ = false := hO.free 4 rfl
  have c9_5_0 : u13.cell? ⟨nd14, 0, none⟩ = some (.iface 38 (.pointer (some ⟨nd16, 0, none⟩))) := hO.cell 5 rfl 0 rfl
  have c9_5_1 : u13.cell? ⟨nd14, 1, none⟩ = some (.int .i32 ll) := hO.cell 5 rfl 1 rfl
  have c9_5_2 : u13.cell? ⟨nd14, 2, none⟩ = some (.iface 42 (.pointer (some ⟨nd15, 0, none⟩))) := hO.cell 5 rfl 2 rfl
  have c9_5_3 : u13.cell? ⟨nd14, 3, none⟩ = some (.int .i32 ll) := hO.cell 5 rfl 3 rfl
  have c9_5_4 : u13.cell? ⟨nd14, 4, none⟩ = some (.int .u8 30) := hO.cell 5 rfl 4 rfl
  have c9_5_5 : u13.cell? ⟨nd14, 5, none⟩ = some (.bool false) := hO.cell 5 rfl 5 rfl
  have lt9_5 : nd14 < u13.heap.size := hO.lt 5 rfl
  have y9_5 : ∀ o, u13.frozen? ⟨nd14, o, none⟩ = false := hO.free 5 rfl
  have c9_6_0 : u13.cell? ⟨nd15, 0, none⟩ = some (.iface 38 (.pointer (some ⟨nd17, 0, none⟩))) := hO.cell 6 rfl 0 rfl
  have c9_6_1 : u13.cell? ⟨nd15, 1, none⟩ = some (.int .i32 ll) := hO.cell 6 rfl 1 rfl
  have c9_6_2 : u13.cell? ⟨nd15, 2, none⟩ = some (.iface 40 (.pointer (some ⟨B11_16, 0, none⟩))) := hO.cell 6 rfl 2 rfl
  have c9_6_3 : u13.cell? ⟨nd15, 3, none⟩ = some (.int .i32 loc) := hO.cell 6 rfl 3 rfl
  have c9_6_4 : u13.cell? ⟨nd15, 4, none⟩ = some (.int .u8 37) := hO.cell 6 rfl 4 rfl
  have c9_6_5 : u13.cell? ⟨nd15, 5, none⟩ = some (.bool false) := hO.cell 6 rfl 5 rfl
  have lt9_6 : nd15 < u13.heap.size := hO.lt 6 rfl
  have y9_6 : ∀ o, u13.frozen? ⟨nd15, o, none⟩ = false := hO.free 6 rfl
  have c9_7_0 : u13.cell? ⟨nd16, 0, none⟩ = some (.iface 52 (.pointer (some ⟨nd18, 0, none⟩))) := hO.cell 7 rfl 0 rfl
  have c9_7_1 : u13.cell? ⟨nd16, 1, none⟩ = some (.int .i32 ll) := hO.cell 7 rfl 1 rfl
  have c9_7_2 : u13.cell? ⟨nd16, 2, none⟩ = some (.iface 40 (.pointer (some ⟨nd19, 0, none⟩))) := hO.cell 7 rfl 2 rfl
  have c9_7_3 : u13.cell? ⟨nd16, 3, none⟩ = some (.int .i32 ll) := hO.cell 7 rfl 3 rfl
  have c9_7_4 : u13.cell? ⟨nd16, 4, none⟩ = some (.int .i32 0) := hO.cell 7 rfl 4 rfl
  have c9_7_5 : u13.cell? ⟨nd16, 5, none⟩ = some (.int .u8 0) := hO.cell 7 rfl 5 rfl
  have c9_7_6 : u13.cell? ⟨nd16, 6, none⟩ = some (.bool false) := hO.cell 7 rfl 6 rfl
  have c9_7_7 : u13.cell? ⟨nd16, 7, none⟩ = some (.bool false) := hO.cell 7 rfl 7 rfl
  have c9_7_8 : u13.cell? ⟨nd16, 8, none⟩ = some (.bool false) := hO.cell 7 rfl 8 rfl
  have lt9_7 : nd16 < u13.heap.size := hO.lt 7 rfl
  have y9_7 : ∀ o, u13.frozen? ⟨nd16, o, none⟩ = false := hO.free 7 rfl
  have c9_8_0 : u13.cell? ⟨nd17, 0, none⟩ = some (.iface 52 (.pointer (some ⟨nd20, 0, none⟩))) := hO.cell 8 rfl 0 rfl
  have c9_8_1 : u13.cell? ⟨nd17, 1, none⟩ = some (.int .i32 ll) := hO.cell 8 rfl 1 rfl
  have c9_8_2 : u13.cell? ⟨nd17, 2, none⟩ = some (.iface 40 (.pointer (some ⟨nd21, 0, none⟩))) := hO.cell 8 rfl 2 rfl
  have c9_8_3 : u13.cell? ⟨nd17, 3, none⟩ = some (.int .i32 ll) := hO.cell 8 rfl 3 rfl
  have c9_8_4 : u13.cell? ⟨nd17, 4, none⟩ = some (.int .i32 0) := hO.cell 8 rfl 4 rfl
  have c9_8_5 : u13.cell? ⟨nd17, 5, none⟩ = some (.int .u8 0) := hO.cell 8 rfl 5 rfl
  have c9_8_6 : u13.cell? ⟨nd17, 6, none⟩ = some (.bool false) := hO.cell 8 rfl 6 rfl
  have c9_8_7 : u13.cell? ⟨nd17, 7, none⟩ = some (.bool false) := hO.cell 8 rfl 7 rfl
  have c9_8_8 : u13.cell? ⟨nd17, 8, none⟩ = some (.bool false) := hO.cell 8 rfl 8 rfl
  have lt9_8 : nd17 < u13.heap.size := hO.lt 8 rfl
  have y9_8 : ∀ o, u13.frozen? ⟨nd17, o, none⟩ = false := hO.free 8 rfl
  have c9_9_0 : u13.cell? ⟨nd18, 0, none⟩ = some (.int .u32 src) := hO.cell 9 rfl 0 rfl
  have c9_9_1 : u13.cell? ⟨nd18, 1, none⟩ = some (.int .u32 (m : Int)) := hO.cell 9 rfl 1 rfl
  have c9_9_2 : u13.cell? ⟨nd18, 2, none⟩ = some (.bool false) := hO.cell 9 rfl 2 rfl
  have c9_9_3 : u13.cell? ⟨nd18, 3, none⟩ = some (.bool false) := hO.cell 9 rfl 3 rfl
  have c9_9_4 : u13.cell? ⟨nd18, 4, none⟩ = some (.bool false) := hO.cell 9 rfl 4 rfl
  have lt9_9 : nd18 < u13.heap.size := hO.lt 9 rfl
  have y9_9 : ∀ o, u13.frozen? ⟨nd18, o, none⟩ = false := hO.free 9 rfl
  have c9_10_0 : u13.cell? ⟨nd19, 0, none⟩ = some (.float .f64 kv) := hO.cell 10 rfl 0 rfl
  have lt9_10 : nd19 < u13.heap.size := hO.lt 10 rfl
  have y9_10 : ∀ o, u13.frozen? ⟨nd19, o, none⟩ = false := hO.free 10 rfl
  have c9_11_0 : u13.cell? ⟨nd20, 0, none⟩ = some (.int .u32 src) := hO.cell 11 rfl 0 rfl
  have c9_11_1 : u13.cell? ⟨nd20, 1, none⟩ = some (.int .u32 (m : Int)) := hO.cell 11 rfl 1 rfl
  have c9_11_2 : u13.cell? ⟨nd20, 2, none⟩ = some (.bool false) := hO.cell 11 rfl 2 rfl
  have c9_11_3 : u13.cell? ⟨nd20, 3, none⟩ = some (.bool false) := hO.cell 11 rfl 3 rfl
  have c9_11_4 : u13.cell? ⟨nd20, 4, none⟩ = some (.bool false) := hO.cell 11 rfl 4 rfl
  have lt9_11 : nd20 < u13.heap.size := hO.lt 11 rfl
  have y9_11 : ∀ o, u13.frozen? ⟨nd20, o, none⟩ = false := hO.free 11 rfl
  have c9_12_0 : u13.cell? ⟨nd21, 0, none⟩ = some (.float .f64 kv) := hO.cell 12 rfl 0 rfl
  have lt9_12 : nd21 < u13.heap.size := hO.lt 12 rfl
  have y9_12 : ∀ o, u13.frozen? ⟨nd21, o, none⟩ = false := hO.free 12 rfl
  have c9_13_0 : u13.cell? ⟨B11_19, 0, none⟩ = some (.iface 40 (.pointer (some ⟨B11_16, 0, none⟩))) := hO.cell 13 rfl 0 rfl
  have c9_13_1 : u13.cell? ⟨B11_19, 1, none⟩ = some (.int .i32 loc) := hO.cell 13 rfl 1 rfl
  have lt9_13 : B11_19 < u13.heap.size := hO.lt 13 rfl
  have y9_13 : ∀ o, u13.frozen? ⟨B11_19, o, none⟩ = false := hO.free 13 rfl
  have c9_14_0 : u13.cell? ⟨B11_18, 0, none⟩ = some (.iface 38 (.pointer (some ⟨B11_12, 0, none⟩))) := hO.cell 14 rfl 0 rfl
  have c9_14_1 : u13.cell? ⟨B11_18, 1, none⟩ = some (.int .i32 ll) := hO.cell 14 rfl 1 rfl
  have lt9_14 : B11_18 < u13.heap.size := hO.lt 14 rfl
  have y9_14 : ∀ o, u13.frozen? ⟨B11_18, o, none⟩ = false := hO.free 14 rfl
  have c9_15_0 : u13.cell? ⟨B11_17, 0, none⟩ = some (.iface 40 (.pointer (some ⟨B11_16, 0, none⟩))) := hO.cell 15 rfl 0 rfl
  have c9_15_1 : u13.cell? ⟨B11_17, 1, none⟩ = some (.int .i32 loc) := hO.cell 15 rfl 1 rfl
  have lt9_15 : B11_17 < u13.heap.size := hO.lt 15 rfl
  have y9_15 : ∀ o, u13.frozen? ⟨B11_17, o, none⟩ = false := hO.free 15 rfl
  have c9_16_0 : u13.cell? ⟨B11_16, 0, none⟩ = some (.float .f64 v) := hO.cell 16 rfl 0 rfl
  have lt9_16 : B11_16 < u13.heap.size := hO.lt 16 rfl
  have y9_16 : ∀ o, u13.frozen? ⟨B11_16, o, none⟩ = false := hO.free 16 rfl
  have c9_17_0 : u13.cell? ⟨B11_15, 0, none⟩ = some (.iface 40 (.pointer (some ⟨B11_16, 0, none⟩))) := hO.cell 17 rfl 0 rfl
  have c9_17_1 : u13.cell? ⟨B11_15, 1, none⟩ = some (.int .i32 loc) := hO.cell 17 rfl 1 rfl
  have lt9_17 : B11_15 < u13.heap.size := hO.lt 17 rfl
  have y9_17 : ∀ o, u13.frozen? ⟨B11_15, o, none⟩ = false := hO.free 17 rfl
  have c9_18_0 : u13.cell? ⟨B11_13, 0, none⟩ = some (.iface 38 (.pointer (some ⟨B11_12, 0, none⟩))) := hO.cell 18 rfl 0 rfl
  have c9_18_1 : u13.cell? ⟨B11_13, 1, none⟩ = some (.int .i32 ll) := hO.cell 18 rfl 1 rfl
  have lt9_18 : B11_13 < u13.heap.size := hO.lt 18 rfl
  have y9_18 : ∀ o, u13.frozen? ⟨B11_13, o, none⟩ = false := hO.free 18 rfl
  have c9_19_0 : u13.cell? ⟨B11_11, 0, none⟩ = some (.iface 38 (.pointer (some ⟨B11_12, 0, none⟩))) := hO.cell 19 rfl 0 rfl
  have c9_19_1 : u13.cell? ⟨B11_11, 1, none⟩ = some (.int .i32 ll) := hO.cell 19 rfl 1 rfl
  have lt9_19 : B11_11 < u13.heap.size := hO.lt 19 rfl
  have y9_19 : ∀ o, u13.frozen? ⟨B11_11, o, none⟩ = false := hO.free 19 rfl
  have c9_20_0 : u13.cell? ⟨B11_10, 0, none⟩ = some (.iface 40 (.pointer (some ⟨B11_7, 0, none⟩))) := hO.cell 20 rfl 0 rfl
  have c9_20_1 : u13.cell? ⟨B11_10, 1, none⟩ = some (.int .i32 kl) := hO.cell 20 rfl 1 rfl
  have lt9_20 : B11_10 < u13.heap.size := hO.lt 20 rfl
  have y9_20 : ∀ o, u13.frozen? ⟨B11_10, o, none⟩ = false := hO.free 20 rfl
  have c9_21_0 : u13.cell? ⟨B11_9, 0, none⟩ = some (.iface 52 (.pointer (some ⟨B11_4, 0, none⟩))) := hO.cell 21 rfl 0 rfl
  have c9_21_1 : u13.cell? ⟨B11_9, 1, none⟩ = some (.int .i32 tl) := hO.cell 21 rfl 1 rfl
  have lt9_21 : B11_9 < u13.heap.size := hO.lt 21 rfl
  have y9_21 : ∀ o, u13.frozen? ⟨B11_9, o, none⟩ = false := hO.free 21 rfl
  have c9_22_0 : u13.cell? ⟨B11_6, 0, none⟩ = some (.iface 40 (.pointer (some ⟨B11_7, 0, none⟩))) := hO.cell 22 rfl 0 rfl
  have c9_22_1 : u13.cell? ⟨B11_6, 1, none⟩ = some (.int .i32 kl) := hO.cell 22 rfl 1 rfl
  have lt9_22 : B11_6 < u13.heap.size := hO.lt 22 rfl
  have y9_22 : ∀ o, u13.frozen? ⟨B11_6, o, none⟩ = false := hO.free 22 rfl
  have c9_23_0 : u13.cell? ⟨B11_3, 0, none⟩ = some (.iface 52 (.pointer (some ⟨B11_4, 0, none⟩))) := hO.cell 23 rfl 0 rfl
  have c9_23_1 : u13.cell? ⟨B11_3, 1, none⟩ = some (.int .i32 tl) := hO.cell 23 rfl 1 rfl
  have lt9_23 : B11_3 < u13.heap.size := hO.lt 23 rfl
  have y9_23 : ∀ o, u13.frozen? ⟨B11_3, o, none⟩ = false := hO.free 23 rfl
  have c9_24_0 : u13.cell? ⟨B11_2, 0, none⟩ = some (.int .u32 src) := hO.cell 24 rfl 0 rfl
  have c9_24_1 : u13.cell? ⟨B11_2, 1, none⟩ = some (.int .u32 (m : Int)) := hO.cell 24 rfl 1 rfl
  have lt9_24 : B11_2 < u13.heap.size := hO.lt 24 rfl
  have y9_24 : ∀ o, u13.frozen? ⟨B11_2, o, none⟩ = false := hO.free 24 rfl
  have c9_25_0 : u13.cell? ⟨B11, 0, none⟩ = some (.int .u32 src) := hO.cell 25 rfl 0 rfl
  have c9_25_1 : u13.cell? ⟨B11, 1, none⟩ = some (.int .u32 (m : Int)) := hO.cell 25 rfl 1 rfl
  have lt9_25 : B11 < u13.heap.size := hO.lt 25 rfl
  have y9_25 : ∀ o, u13.frozen? ⟨B11, o, none⟩ = false := hO.free 25 rfl
  have HO := Lib.hid hO
  clear hO
  go_wp2_with (first | (go_at_call 6; go_in) | (go_at_call 7; go_in) | (go_at_call 5; go_in) | (go_at_call 8; go_in) | (go_at_call 9; go_in) | (go_at_call 13; go_in) | (go_at_call 15; go_in) | (go_at_call 11; go_in))
  have hO := HO.out
  clear HO c9_2_0 c9_2_1 c9_2_2 c9_2_3 c9_2_4 c9_2_5 c9_2_6 c9_2_7 c9_2_8 lt9_2 y9_2 c9_3_0 c9_3_1 c9_3_2 c9_3_3 c9_3_4 lt9_3 y9_3 c9_4_0 lt9_4 y9_4 c9_5_0 c9_5_1 c9_5_2 c9_5_3 c9_5_4 c9_5_5 lt9_5 y9_5 c9_6_0 c9_6_1 c9_6_2 c9_6_3 c9_6_4 c9_6_5 lt9_6 y9_6 c9_7_0 c9_7_1 c9_7_2 c9_7_3 c9_7_4 c9_7_5 c9_7_6 c9_7_7 c9_7_8 lt9_7 y9_7 c9_8_0 c9_8_1 c9_8_2 c9_8_3 c9_8_4 c9_8_5 c9_8_6 c9_8_7 c9_8_8 lt9_8 y9_8 c9_9_0 c9_9_1 c9_9_2 c9_9_3 c9_9_4 lt9_9 y9_9 c9_10_0 lt9_10 y9_10 c9_11_0 c9_11_1 c9_11_2 c9_11_3 c9_11_4 lt9_11 y9_11 c9_12_0 lt9_12 y9_12 c9_13_0 c9_13_1 lt9_13 y9_13 c9_14_0 c9_14_1 lt9_14 y9_14 c9_15_0 c9_15_1 lt9_15 y9_15 c9_16_0 lt9_16 y9_16 c9_17_0 c9_17_1 lt9_17 y9_17 c9_18_0 c9_18_1 lt9_18 y9_18 c9_19_0 c9_19_1 lt9_19 y9_19 c9_20_0 c9_20_1 lt9_20 y9_20 c9_21_0 c9_21_1 lt9_21 y9_21 c9_22_0 c9_22_1 lt9_22 y9_22 c9_23_0 c9_23_1 lt9_23 y9_23 c9_24_0 c9_24_1 lt9_24 y9_24 c9_25_0 c9_25_1 lt9_25 y9_25
  generalize hW : World.alloc _ _ = W23
  have hN : Own w0 W23 [row (u13.heap.size + 1) 34 #[.iface 42 (.pointer (some ⟨nd14, 0, none⟩)), .int .i32 loc], row (u13.heap.size) 34 #[.iface 42 (.pointer (some ⟨nd14, 0, none⟩)), .int .i32 loc], row (nd2) 178 nd5, row (nd3) 196 (bumped (bumped nd6 m (0 : Nat)) m (1 : Nat)), row (B11_12) 56 #[.iface 52 (.pointer (some ⟨B11_4, 0, none⟩)), .int .i32 tl, .iface 40 (.pointer (some ⟨B11_7, 0, none⟩)), .int .i32 kl, .int .i32 0, .int .u8 0, .bool false, .bool false, .bool false], row (B11_4) 180 #[.int .u32 src, .int .u32 (m : Int), .bool false, .bool false, .bool false], row (B11_7) 182 #[.float .f64 kv], row (nd14) 45 #[.iface 38 (.pointer (some ⟨nd16, 0, none⟩)), .int .i32 ll, .iface 42 (.pointer (some ⟨nd15, 0, none⟩)), .int .i32 ll, .int .u8 30, .bool false], row (nd15) 45 #[.iface 38 (.pointer (some ⟨nd17, 0, none⟩)), .int .i32 ll, .iface 40 (.pointer (some ⟨B11_16, 0, none⟩)), .int .i32 loc, .int .u8 37, .bool false], row (nd16) 56 #[.iface 52 (.pointer (some ⟨nd18, 0, none⟩)), .int .i32 ll, .iface 40 (.pointer (some ⟨nd19, 0, none⟩)), .int .i32 ll, .int .i32 0, .int .u8 0, .bool false, .bool false, .bool false], row (nd17) 56 #[.iface 52 (.pointer (some ⟨nd20, 0, none⟩)), .int .i32 ll, .iface 40 (.pointer (some ⟨nd21, 0, none⟩)), .int .i32 ll, .int .i32 0, .int .u8 0, .bool false, .bool false, .bool false], row (nd18) 180 #[.int .u32 src, .int .u32 (m : Int), .bool false, .bool false, .bool false], row (nd19) 182 #[.float .f64 kv], row (nd20) 180 #[.int .u32 src, .int .u32 (m : Int), .bool false, .bool false, .bool false], row (nd21) 182 #[.float .f64 kv], row (B11_19) 34 #[.iface 40 (.pointer (some ⟨B11_16, 0, none⟩)), .int .i32 loc], row (B11_18) 34 #[.iface 38 (.pointer (some ⟨B11_12, 0, none⟩)), .int .i32 ll], row (B11_17) 34 #[.iface 40 (.pointer (some ⟨B11_16, 0, none⟩)), .int .i32 loc], row (B11_16) 182 #[.float .f64 v], row (B11_15) 34 #[.iface 40 (.pointer (some ⟨B11_16, 0, none⟩)), .int .i32 loc], row (B11_13) 34 #[.iface 38 (.pointer (some ⟨B11_12, 0, none⟩)), .int .i32 ll], row (B11_11) 34 #[.iface 38 (.pointer (some ⟨B11_12, 0, none⟩)), .int .i32 ll], row (B11_10) 34 #[.iface 40 (.pointer (some ⟨B11_7, 0, none⟩)), .int .i32 kl], row (B11_9) 34 #[.iface 52 (.pointer (some ⟨B11_4, 0, none⟩)), .int .i32 tl], row (B11_6) 34 #[.iface 40 (.pointer (some ⟨B11_7, 0, none⟩)), .int .i32 kl], row (B11_3) 34 #[.iface 52 (.pointer (some ⟨B11_4, 0, none⟩)), .int .i32 tl], row (B11_2) 28 #[.int .u32 src, .int .u32 (m : Int)], row (B11) 28 #[.int .u32 src, .int .u32 (m : Int)]] X := by
    rw [← hW]
    exact ((hO).alloc' _ (u13.heap.size) (by simp)).alloc' _ (u13.heap.size + 1) (by simp)
  clear hW hO
  generalize u13.heap.size + 1 = B22_1 at hN ⊢
  generalize u13.heap.size = B22 at hN ⊢
  have hO := hN
  clear hN
  refine wp_region_own (e := rL1E src m tl kl ll loc kv v nd2 nd3 nd5 nd6 B11_19 B11_18 B11_17 B11_16 B11_15 B11_13 B11_12 B11_11 B11_10 B11_9 B11_7 B11_6 B11_4 B11_3 B11_2 B11 nd14 nd15 nd16 nd17 nd18 nd19 nd20 nd21 B22_1 B22) (anc := rL1Anc) (G := (fun L9 α u9 => OwnF w0 u9 (act rL1Cnt 28 L9) (rL1R src m tl kl ll loc kv v nd2 nd3 nd5 nd6 B11_19 B11_18 B11_17 B11_16 B11_15 B11_13 B11_12 B11_11 B11_10 B11_9 B11_7 B11_6 B11_4 B11_3 B11_2 B11 nd14 nd15 nd16 nd17 nd18 nd19 nd20 nd21 B22_1 B22 L9 α) X)) (by kernel_rfl) (by kernel_rfl) (by kernel_rfl) (by kernel_rfl) (rL1_he src m tl kl ll loc kv v nd2 nd3 nd5 nd6 B11_19 B11_18 B11_17 B11_16 B11_15 B11_13 B11_12 B11_11 B11_10 B11_9 B11_7 B11_6 B11_4 B11_3 B11_2 B11 nd14 nd15 nd16 nd17 nd18 nd19 nd20 nd21 B22_1 B22) ?_ (RunsAll.all ?_) ?_
  · have hp : ∀ i, act rL1Cnt 28 (fun _ => false) i → i ∈ [999, 1999, 2999, 3999, 4999, 5999, 6999, 7999, 8999, 9999, 10999, 11999, 12999, 13999, 14999, 15999, 16999, 17999, 18999, 19999, 20999, 21999, 22999, 23999, 24999, 25999, 26999, 27999] := by
      intro i hi
      have h9 : i % 1000 = 999 := by
        by_cases h : i % 1000 = 999
        · exact h
        · exact absurd (act_lt hi h) (by simp)
      unfold act at hi
      rw [if_pos h9] at hi
      simp only [List.mem_cons, List.not_mem_nil, or_false]
      omega
    refine hO.drew.family (fun i hi => ?_) (fun i j hi hj hij => ?_)
    · have := hp i hi
      simp only [List.mem_cons, List.not_mem_nil, or_false] at this
      rcases this with rfl | rfl | rfl | rfl | rfl | rfl | rfl | rfl | rfl | rfl | rfl | rfl | rfl | rfl | rfl | rfl | rfl | rfl | rfl | rfl | rfl | rfl | rfl | rfl | rfl | rfl | rfl | rfl <;> rfl
    · have h1 := hp i hi
      have h2 := hp j hj
      simp only [List.mem_cons, List.not_mem_nil, or_false] at h1 h2
      omega
  · refine ⟨?_, ?_, ?_, ?_, ?_, ?_, ?_, ?_, ?_, ?_, trivial⟩
    · intro L9 α a9 u9 K9 hL hcl hA hG hS h0 hK
      replace hL : L9 0 = false := hL
      have q29 : a9.tmps[29]? = some (.pointer (some ⟨nd14, 0, none⟩)) := (h0 29 (by kernel_rfl)).trans rfl
      have s29 := Rega.eval_of q29
      go_simp
      exact hK _ α _ (fun _ _ => rfl) rfl (step_same (rL1_st src m tl kl ll loc kv v nd2 nd3 nd5 nd6 B11_19 B11_18 B11_17 B11_16 B11_15 B11_13 B11_12 B11_11 B11_10 B11_9 B11_7 B11_6 B11_4 B11_3 B11_2 B11 nd14 nd15 nd16 nd17 nd18 nd19 nd20 nd21 B22_1 B22) hL hcl rfl rfl hG)
    · intro L9 α a9 u9 K9 hL hcl hA hG hS h0 hK
      replace hL : L9 1 = false := hL
      have q120 : a9.tmps[120]? = some (.pointer (some ⟨nd14, 0, none⟩)) := hS 0 120 (by decide) rfl (by show 120 < 207; decide)
      have s120 := Rega.eval_of q120
      go_simp
      exact hK _ α _ (fun _ _ => rfl) rfl (step_same (rL1_st src m tl kl ll loc kv v nd2 nd3 nd5 nd6 B11_19 B11_18 B11_17 B11_16 B11_15 B11_13 B11_12 B11_11 B11_10 B11_9 B11_7 B11_6 B11_4 B11_3 B11_2 B11 nd14 nd15 nd16 nd17 nd18 nd19 nd20 nd21 B22_1 B22) hL hcl rfl rfl hG)
    · intro L9 α a9 u9 K9 hL hcl hA hG hS h0 hK
      replace hL : L9 2 = false := hL
      have q121 : a9.tmps[121]? = some (.pointer (some ⟨nd14, 0, none⟩)) := hS 1 121 (by decide) rfl (by show 121 < 207; decide)
      have s121 := Rega.eval_of q121
      go_simp
      exact hK _ α _ (fun _ _ => rfl) rfl (step_same (rL1_st src m tl kl ll loc kv v nd2 nd3 nd5 nd6 B11_19 B11_18 B11_17 B11_16 B11_15 B11_13 B11_12 B11_11 B11_10 B11_9 B11_7 B11_6 B11_4 B11_3 B11_2 B11 nd14 nd15 nd16 nd17 nd18 nd19 nd20 nd21 B22_1 B22) hL hcl rfl rfl hG)
    · intro L9 α a9 u9 K9 hL hcl hA hG hS h0 hK
      replace hL : L9 3 = false := hL
      have q122 : a9.tmps[122]? = some (.pointer (some ⟨nd14, 0, none⟩)) := hS 2 122 (by decide) rfl (by show 122 < 207; decide)
      have s122 := Rega.eval_of q122
      have e0 : rL1R src m tl kl ll loc kv v nd2 nd3 nd5 nd6 B11_19 B11_18 B11_17 B11_16 B11_15 B11_13 B11_12 B11_11 B11_10 B11_9 B11_7 B11_6 B11_4 B11_3 B11_2 B11 nd14 nd15 nd16 nd17 nd18 nd19 nd20 nd21 B22_1 B22 L9 α 7999 = row (nd14) 45 #[.iface 38 (.pointer (some ⟨nd16, 0, none⟩)), .int .i32 ll, .iface 42 (.pointer (some ⟨nd15, 0, none⟩)), .int .i32 ll, .int .u8 30, .bool false] := rfl
      have hr := hG.rowAt 7999 (act_base 7999 rfl) e0
      have c0 : u9.cell? ⟨nd14, 0, none⟩ = some (.iface 38 (.pointer (some ⟨nd16, 0, none⟩))) := hr.cell rfl
      have c1 : u9.cell? ⟨nd14, 1, none⟩ = some (.int .i32 ll) := hr.cell rfl
      clear hr e0
      go_simp
      exact hK _ α _ (fun _ _ => rfl) rfl (step_same (rL1_st src m tl kl ll loc kv v nd2 nd3 nd5 nd6 B11_19 B11_18 B11_17 B11_16 B11_15 B11_13 B11_12 B11_11 B11_10 B11_9 B11_7 B11_6 B11_4 B11_3 B11_2 B11 nd14 nd15 nd16 nd17 nd18 nd19 nd20 nd21 B22_1 B22) hL hcl rfl rfl hG)
    · intro L9 α a9 u9 K9 hL hcl hA hG hS h0 hK
      replace hL : L9 4 = false := hL
      have q5 : a9.tmps[5]? = some (.int .i32 ll) := (h0 5 (by kernel_rfl)).trans rfl
      have s5 := Rega.eval_of q5
      go_simp
      exact hK _ α _ (fun _ _ => rfl) rfl (step_same (rL1_st src m tl kl ll loc kv v nd2 nd3 nd5 nd6 B11_19 B11_18 B11_17 B11_16 B11_15 B11_13 B11_12 B11_11 B11_10 B11_9 B11_7 B11_6 B11_4 B11_3 B11_2 B11 nd14 nd15 nd16 nd17 nd18 nd19 nd20 nd21 B22_1 B22) hL hcl rfl rfl hG)
    · intro L9 α a9 u9 K9 hL hcl hA hG hS h0 hK
      replace hL : L9 5 = false := hL
      have q21 : a9.tmps[21]? = some (.pointer (some ⟨B11, 0, none⟩)) := (h0 21 (by kernel_rfl)).trans rfl
      have s21 := Rega.eval_of q21
      have e0 : rL1R src m tl kl ll loc kv v nd2 nd3 nd5 nd6 B11_19 B11_18 B11_17 B11_16 B11_15 B11_13 B11_12 B11_11 B11_10 B11_9 B11_7 B11_6 B11_4 B11_3 B11_2 B11 nd14 nd15 nd16 nd17 nd18 nd19 nd20 nd21 B22_1 B22 L9 α 27999 = row (B11) 28 #[.int .u32 src, .int .u32 (m : Int)] := rfl
      have hr := hG.rowAt 27999 (act_base 27999 rfl) e0
      have c0 : u9.cell? ⟨B11, 0, none⟩ = some (.int .u32 src) := hr.cell rfl
      have c1 : u9.cell? ⟨B11, 1, none⟩ = some (.int .u32 (m : Int)) := hr.cell rfl
      clear hr e0
      go_simp
      exact hK _ α _ (fun _ _ => rfl) rfl (step_same (rL1_st src m tl kl ll loc kv v nd2 nd3 nd5 nd6 B11_19 B11_18 B11_17 B11_16 B11_15 B11_13 B11_12 B11_11 B11_10 B11_9 B11_7 B11_6 B11_4 B11_3 B11_2 B11 nd14 nd15 nd16 nd17 nd18 nd19 nd20 nd21 B22_1 B22) hL hcl rfl rfl hG)
    · intro L9 α a9 u9 K9 hL hcl hA hG hS h0 hK
      replace hL : L9 6 = false := hL
      have q7 : a9.tmps[7]? = some (.float .f64 kv) := (h0 7 (by kernel_rfl)).trans rfl
      have s7 := Rega.eval_of q7
      go_simp
      exact hK _ α _ (fun _ _ => rfl) rfl (step_same (rL1_st src m tl kl ll loc kv v nd2 nd3 nd5 nd6 B11_19 B11_18 B11_17 B11_16 B11_15 B11_13 B11_12 B11_11 B11_10 B11_9 B11_7 B11_6 B11_4 B11_3 B11_2 B11 nd14 nd15 nd16 nd17 nd18 nd19 nd20 nd21 B22_1 B22) hL hcl rfl rfl hG)
    · intro L9 α a9 u9 K9 hL hcl hA hG hS h0 hK
      replace hL : L9 7 = false := hL
      have q24 : a9.tmps[24]? = some (.pointer (some ⟨B11_12, 0, none⟩)) := (h0 24 (by kernel_rfl)).trans rfl
      have s24 := Rega.eval_of q24
      go_simp
      exact hK _ α _ (fun _ _ => rfl) rfl (step_same (rL1_st src m tl kl ll loc kv v nd2 nd3 nd5 nd6 B11_19 B11_18 B11_17 B11_16 B11_15 B11_13 B11_12 B11_11 B11_10 B11_9 B11_7 B11_6 B11_4 B11_3 B11_2 B11 nd14 nd15 nd16 nd17 nd18 nd19 nd20 nd21 B22_1 B22) hL hcl rfl rfl hG)
    · intro L9 α a9 u9 K9 hL hcl hA hG hS h0 hK
      replace hL : L9 8 = false := hL
      have q123 : a9.tmps[123]? = some (.agg #[.iface 38 (.pointer (some ⟨nd16, 0, none⟩)), .int .i32 ll]) := hS 3 123 (by decide) rfl (by show 123 < 207; decide)
      have s123 := Rega.eval_of q123
      have q124 : a9.tmps[124]? = some (.int .i32 ll) := hS 4 124 (by decide) rfl (by show 124 < 207; decide)
      have s124 := Rega.eval_of q124
      have q125 : a9.tmps[125]? = some (.agg #[.int .u32 src, .int .u32 (m : Int)]) := hS 5 125 (by decide) rfl (by show 125 < 207; decide)
      have s125 := Rega.eval_of q125
      have q126 : a9.tmps[126]? = some (.float .f64 kv) := hS 6 126 (by decide) rfl (by show 126 < 207; decide)
      have s126 := Rega.eval_of q126
      have q127 : a9.tmps[127]? = some (.pointer (some ⟨B11_12, 0, none⟩)) := hS 7 127 (by decide) rfl (by show 127 < 207; decide)
      have s127 := Rega.eval_of q127
      go_simp
      have e0 : rL1R src m tl kl ll loc kv v nd2 nd3 nd5 nd6 B11_19 B11_18 B11_17 B11_16 B11_15 B11_13 B11_12 B11_11 B11_10 B11_9 B11_7 B11_6 B11_4 B11_3 B11_2 B11 nd14 nd15 nd16 nd17 nd18 nd19 nd20 nd21 B22_1 B22 L9 α 9999 = row (nd16) 56 #[.iface 52 (.pointer (some ⟨nd18, 0, none⟩)), .int .i32 ll, .iface 40 (.pointer (some ⟨nd19, 0, none⟩)), .int .i32 ll, .int .i32 0, .int .u8 0, .bool false, .bool false, .bool false] := rfl
      have e1 : rL1R src m tl kl ll loc kv v nd2 nd3 nd5 nd6 B11_19 B11_18 B11_17 B11_16 B11_15 B11_13 B11_12 B11_11 B11_10 B11_9 B11_7 B11_6 B11_4 B11_3 B11_2 B11 nd14 nd15 nd16 nd17 nd18 nd19 nd20 nd21 B22_1 B22 L9 α 4999 = row (B11_12) 56 #[.iface 52 (.pointer (some ⟨B11_4, 0, none⟩)), .int .i32 tl, .iface 40 (.pointer (some ⟨B11_7, 0, none⟩)), .int .i32 kl, .int .i32 0, .int .u8 0, .bool false, .bool false, .bool false] := rfl
      have e2 : rL1R src m tl kl ll loc kv v nd2 nd3 nd5 nd6 B11_19 B11_18 B11_17 B11_16 B11_15 B11_13 B11_12 B11_11 B11_10 B11_9 B11_7 B11_6 B11_4 B11_3 B11_2 B11 nd14 nd15 nd16 nd17 nd18 nd19 nd20 nd21 B22_1 B22 L9 α 11999 = row (nd18) 180 #[.int .u32 src, .int .u32 (m : Int), .bool false, .bool false, .bool false] := rfl
      have e3 : rL1R src m tl kl ll loc kv v nd2 nd3 nd5 nd6 B11_19 B11_18 B11_17 B11_16 B11_15 B11_13 B11_12 B11_11 B11_10 B11_9 B11_7 B11_6 B11_4 B11_3 B11_2 B11 nd14 nd15 nd16 nd17 nd18 nd19 nd20 nd21 B22_1 B22 L9 α 5999 = row (B11_4) 180 #[.int .u32 src, .int .u32 (m : Int), .bool false, .bool false, .bool false] := rfl
      have e4 : rL1R src m tl kl ll loc kv v nd2 nd3 nd5 nd6 B11_19 B11_18 B11_17 B11_16 B11_15 B11_13 B11_12 B11_11 B11_10 B11_9 B11_7 B11_6 B11_4 B11_3 B11_2 B11 nd14 nd15 nd16 nd17 nd18 nd19 nd20 nd21 B22_1 B22 L9 α 12999 = row (nd19) 182 #[.float .f64 kv] := rfl
      have e5 : rL1R src m tl kl ll loc kv v nd2 nd3 nd5 nd6 B11_19 B11_18 B11_17 B11_16 B11_15 B11_13 B11_12 B11_11 B11_10 B11_9 B11_7 B11_6 B11_4 B11_3 B11_2 B11 nd14 nd15 nd16 nd17 nd18 nd19 nd20 nd21 B22_1 B22 L9 α 6999 = row (B11_7) 182 #[.float .f64 kv] := rfl
      have hM : ∀ i, i ∈ [9999, 4999, 11999, 5999, 12999, 6999] → act rL1Cnt 28 L9 i := by
        intro i hi
        simp only [List.mem_cons, List.not_mem_nil, or_false] at hi
        rcases hi with rfl | rfl | rfl | rfl | rfl | rfl
        · exact act_base 9999 rfl
        · exact act_base 4999 rfl
        · exact act_base 11999 rfl
        · exact act_base 5999 rfl
        · exact act_base 12999 rfl
        · exact act_base 6999 rfl
      have hP : Own w0 u9 [row (nd16) 56 #[.iface 52 (.pointer (some ⟨nd18, 0, none⟩)), .int .i32 ll, .iface 40 (.pointer (some ⟨nd19, 0, none⟩)), .int .i32 ll, .int .i32 0, .int .u8 0, .bool false, .bool false, .bool false], row (B11_12) 56 #[.iface 52 (.pointer (some ⟨B11_4, 0, none⟩)), .int .i32 tl, .iface 40 (.pointer (some ⟨B11_7, 0, none⟩)), .int .i32 kl, .int .i32 0, .int .u8 0, .bool false, .bool false, .bool false], row (nd18) 180 #[.int .u32 src, .int .u32 (m : Int), .bool false, .bool false, .bool false], row (B11_4) 180 #[.int .u32 src, .int .u32 (m : Int), .bool false, .bool false, .bool false], row (nd19) 182 #[.float .f64 kv], row (B11_7) 182 #[.float .f64 kv]] _ := (hG.pick [9999, 4999, 11999, 5999, 12999, 6999] (by decide) hM).conv (by
        show [rL1R src m tl kl ll loc kv v nd2 nd3 nd5 nd6 B11_19 B11_18 B11_17 B11_16 B11_15 B11_13 B11_12 B11_11 B11_10 B11_9 B11_7 B11_6 B11_4 B11_3 B11_2 B11 nd14 nd15 nd16 nd17 nd18 nd19 nd20 nd21 B22_1 B22 L9 α 9999, rL1R src m tl kl ll loc kv v nd2 nd3 nd5 nd6 B11_19 B11_18 B11_17 B11_16 B11_15 B11_13 B11_12 B11_11 B11_10 B11_9 B11_7 B11_6 B11_4 B11_3 B11_2 B11 nd14 nd15 nd16 nd17 nd18 nd19 nd20 nd21 B22_1 B22 L9 α 4999, rL1R src m tl kl ll loc kv v nd2 nd3 nd5 nd6 B11_19 B11_18 B11_17 B11_16 B11_15 B11_13 B11_12 B11_11 B11_10 B11_9 B11_7 B11_6 B11_4 B11_3 B11_2 B11 nd14 nd15 nd16 nd17 nd18 nd19 nd20 nd21 B22_1 B22 L9 α 11999, rL1R src m tl kl ll loc kv v nd2 nd3 nd5 nd6 B11_19 B11_18 B11_17 B11_16 B11_15 B11_13 B11_12 B11_11 B11_10 B11_9 B11_7 B11_6 B11_4 B11_3 B11_2 B11 nd14 nd15 nd16 nd17 nd18 nd19 nd20 nd21 B22_1 B22 L9 α 5999, rL1R src m tl kl ll loc kv v nd2 nd3 nd5 nd6 B11_19 B11_18 B11_17 B11_16 B11_15 B11_13 B11_12 B11_11 B11_10 B11_9 B11_7 B11_6 B11_4 B11_3 B11_2 B11 nd14 nd15 nd16 nd17 nd18 nd19 nd20 nd21 B22_1 B22 L9 α 12999, rL1R src m tl kl ll loc kv v nd2 nd3 nd5 nd6 B11_19 B11_18 B11_17 B11_16 B11_15 B11_13 B11_12 B11_11 B11_10 B11_9 B11_7 B11_6 B11_4 B11_3 B11_2 B11 nd14 nd15 nd16 nd17 nd18 nd19 nd20 nd21 B22_1 B22 L9 α 6999] = _
        rw [e0, e1, e2, e3, e4, e5])
      clear e0 e1 e2 e3 e4 e5 hM
      refine Calls.mono (ixCopyO nd16 ll src (m : Int) kv B11_12 nd18 nd19 B11_4 B11_7 tl kl _ _ _ hP ) ?_
      rintro e9 u1 ⟨rfl, hQ⟩
      obtain ⟨α', hα'⟩ : ∃ α' : Rega.Atoms, α' = α := ⟨_, rfl⟩
      have f0 : rL1R src m tl kl ll loc kv v nd2 nd3 nd5 nd6 B11_19 B11_18 B11_17 B11_16 B11_15 B11_13 B11_12 B11_11 B11_10 B11_9 B11_7 B11_6 B11_4 B11_3 B11_2 B11 nd14 nd15 nd16 nd17 nd18 nd19 nd20 nd21 B22_1 B22 (Rega.ran L9 8) α' 9999 = row (nd16) 56 #[.iface 52 (.pointer (some ⟨nd18, 0, none⟩)), .int .i32 ll, .iface 40 (.pointer (some ⟨nd19, 0, none⟩)), .int .i32 ll, .int .i32 0, .int .u8 0, .bool false, .bool false, .bool false] := rfl
      have f1 : rL1R src m tl kl ll loc kv v nd2 nd3 nd5 nd6 B11_19 B11_18 B11_17 B11_16 B11_15 B11_13 B11_12 B11_11 B11_10 B11_9 B11_7 B11_6 B11_4 B11_3 B11_2 B11 nd14 nd15 nd16 nd17 nd18 nd19 nd20 nd21 B22_1 B22 (Rega.ran L9 8) α' 4999 = row (B11_12) 56 #[.iface 52 (.pointer (some ⟨B11_4, 0, none⟩)), .int .i32 tl, .iface 40 (.pointer (some ⟨B11_7, 0, none⟩)), .int .i32 kl, .int .i32 0, .int .u8 0, .bool false, .bool false, .bool false] := rfl
      have f2 : rL1R src m tl kl ll loc kv v nd2 nd3 nd5 nd6 B11_19 B11_18 B11_17 B11_16 B11_15 B11_13 B11_12 B11_11 B11_10 B11_9 B11_7 B11_6 B11_4 B11_3 B11_2 B11 nd14 nd15 nd16 nd17 nd18 nd19 nd20 nd21 B22_1 B22 (Rega.ran L9 8) α' 11999 = row (nd18) 180 #[.int .u32 src, .int .u32 (m : Int), .bool false, .bool false, .bool false] := rfl
      have f3 : rL1R src m tl kl ll loc kv v nd2 nd3 nd5 nd6 B11_19 B11_18 B11_17 B11_16 B11_15 B11_13 B11_12 B11_11 B11_10 B11_9 B11_7 B11_6 B11_4 B11_3 B11_2 B11 nd14 nd15 nd16 nd17 nd18 nd19 nd20 nd21 B22_1 B22 (Rega.ran L9 8) α' 5999 = row (B11_4) 180 #[.int .u32 src, .int .u32 (m : Int), .bool false, .bool false, .bool false] := rfl
      have f4 : rL1R src m tl kl ll loc kv v nd2 nd3 nd5 nd6 B11_19 B11_18 B11_17 B11_16 B11_15 B11_13 B11_12 B11_11 B11_10 B11_9 B11_7 B11_6 B11_4 B11_3 B11_2 B11 nd14 nd15 nd16 nd17 nd18 nd19 nd20 nd21 B22_1 B22 (Rega.ran L9 8) α' 12999 = row (nd19) 182 #[.float .f64 kv] := rfl
      have f5 : rL1R src m tl kl ll loc kv v nd2 nd3 nd5 nd6 B11_19 B11_18 B11_17 B11_16 B11_15 B11_13 B11_12 B11_11 B11_10 B11_9 B11_7 B11_6 B11_4 B11_3 B11_2 B11 nd14 nd15 nd16 nd17 nd18 nd19 nd20 nd21 B22_1 B22 (Rega.ran L9 8) α' 6999 = row (B11_7) 182 #[.float .f64 kv] := rfl
      have hα : ∀ j, j % 1000 ≠ 8 → α' j = α j := fun j hj => by rw [hα']
      skip
      refine hK _ α' _ hα ?_ (step_call (rL1_st src m tl kl ll loc kv v nd2 nd3 nd5 nd6 B11_19 B11_18 B11_17 B11_16 B11_15 B11_13 B11_12 B11_11 B11_10 B11_9 B11_7 B11_6 B11_4 B11_3 B11_2 B11 nd14 nd15 nd16 nd17 nd18 nd19 nd20 nd21 B22_1 B22) hL hcl hα [9999, 4999, 11999, 5999, 12999, 6999] [9999, 4999, 11999, 5999, 12999, 6999] (by decide) (by decide) (by decide) (M := _) ?_ hG hQ)
      · rfl
      · show [rL1R src m tl kl ll loc kv v nd2 nd3 nd5 nd6 B11_19 B11_18 B11_17 B11_16 B11_15 B11_13 B11_12 B11_11 B11_10 B11_9 B11_7 B11_6 B11_4 B11_3 B11_2 B11 nd14 nd15 nd16 nd17 nd18 nd19 nd20 nd21 B22_1 B22 (Rega.ran L9 8) α' 9999, rL1R src m tl kl ll loc kv v nd2 nd3 nd5 nd6 B11_19 B11_18 B11_17 B11_16 B11_15 B11_13 B11_12 B11_11 B11_10 B11_9 B11_7 B11_6 B11_4 B11_3 B11_2 B11 nd14 nd15 nd16 nd17 nd18 nd19 nd20 nd21 B22_1 B22 (Rega.ran L9 8) α' 4999, rL1R src m tl kl ll loc kv v nd2 nd3 nd5 nd6 B11_19 B11_18 B11_17 B11_16 B11_15 B11_13 B11_12 B11_11 B11_10 B11_9 B11_7 B11_6 B11_4 B11_3 B11_2 B11 nd14 nd15 nd16 nd17 nd18 nd19 nd20 nd21 B22_1 B22 (Rega.ran L9 8) α' 11999, rL1R src m tl kl ll loc kv v nd2 nd3 nd5 nd6 B11_19 B11_18 B11_17 B11_16 B11_15 B11_13 B11_12 B11_11 B11_10 B11_9 B11_7 B11_6 B11_4 B11_3 B11_2 B11 nd14 nd15 nd16 nd17 nd18 nd19 nd20 nd21 B22_1 B22 (Rega.ran L9 8) α' 5999, rL1R src m tl kl ll loc kv v nd2 nd3 nd5 nd6 B11_19 B11_18 B11_17 B11_16 B11_15 B11_13 B11_12 B11_11 B11_10 B11_9 B11_7 B11_6 B11_4 B11_3 B11_2 B11 nd14 nd15 nd16 nd17 nd18 nd19 nd20 nd21 B22_1 B22 (Rega.ran L9 8) α' 12999, rL1R src m tl kl ll loc kv v nd2 nd3 nd5 nd6 B11_19 B11_18 B11_17 B11_16 B11_15 B11_13 B11_12 B11_11 B11_10 B11_9 B11_7 B11_6 B11_4 B11_3 B11_2 B11 nd14 nd15 nd16 nd17 nd18 nd19 nd20 nd21 B22_1 B22 (Rega.ran L9 8) α' 6999] = _
        rw [f0, f1, f2, f3, f4, f5]
    · intro L9 α a9 u9 K9 hL hcl hA hG hS h0 hK
      replace hL : L9 9 = false := hL
      have q128 : a9.tmps[128]? = some (.pointer (some ⟨nd16, 0, none⟩)) := hS 8 128 (by decide) rfl (by show 128 < 207; decide)
      have s128 := Rega.eval_of q128
      go_simp
      exact hK _ α _ (fun _ _ => rfl) rfl (step_same (rL1_st src m tl kl ll loc kv v nd2 nd3 nd5 nd6 B11_19 B11_18 B11_17 B11_16 B11_15 B11_13 B11_12 B11_11 B11_10 B11_9 B11_7 B11_6 B11_4 B11_3 B11_2 B11 nd14 nd15 nd16 nd17 nd18 nd19 nd20 nd21 B22_1 B22) hL hcl rfl rfl hG)
  · intro α u hG
    have e0 : rL1R src m tl kl ll loc kv v nd2 nd3 nd5 nd6 B11_19 B11_18 B11_17 B11_16 B11_15 B11_13 B11_12 B11_11 B11_10 B11_9 B11_7 B11_6 B11_4 B11_3 B11_2 B11 nd14 nd15 nd16 nd17 nd18 nd19 nd20 nd21 B22_1 B22 (fun k => decide (k < 10)) α 999 = row (B22_1) 34 #[.iface 42 (.pointer (some ⟨nd14, 0, none⟩)), .int .i32 loc] := rfl
    have e1 : rL1R src m tl kl ll loc kv v nd2 nd3 nd5 nd6 B11_19 B11_18 B11_17 B11_16 B11_15 B11_13 B11_12 B11_11 B11_10 B11_9 B11_7 B11_6 B11_4 B11_3 B11_2 B11 nd14 nd15 nd16 nd17 nd18 nd19 nd20 nd21 B22_1 B22 (fun k => decide (k < 10)) α 1999 = row (B22) 34 #[.iface 42 (.pointer (some ⟨nd14, 0, none⟩)), .int .i32 loc] := rfl
    have e2 : rL1R src m tl kl ll loc kv v nd2 nd3 nd5 nd6 B11_19 B11_18 B11_17 B11_16 B11_15 B11_13 B11_12 B11_11 B11_10 B11_9 B11_7 B11_6 B11_4 B11_3 B11_2 B11 nd14 nd15 nd16 nd17 nd18 nd19 nd20 nd21 B22_1 B22 (fun k => decide (k < 10)) α 2999 = row (nd2) 178 nd5 := rfl
    have e3 : rL1R src m tl kl ll loc kv v nd2 nd3 nd5 nd6 B11_19 B11_18 B11_17 B11_16 B11_15 B11_13 B11_12 B11_11 B11_10 B11_9 B11_7 B11_6 B11_4 B11_3 B11_2 B11 nd14 nd15 nd16 nd17 nd18 nd19 nd20 nd21 B22_1 B22 (fun k => decide (k < 10)) α 3999 = row (nd3) 196 (bumped (bumped nd6 m (0 : Nat)) m (1 : Nat)) := rfl
    have e4 : rL1R src m tl kl ll loc kv v nd2 nd3 nd5 nd6 B11_19 B11_18 B11_17 B11_16 B11_15 B11_13 B11_12 B11_11 B11_10 B11_9 B11_7 B11_6 B11_4 B11_3 B11_2 B11 nd14 nd15 nd16 nd17 nd18 nd19 nd20 nd21 B22_1 B22 (fun k => decide (k < 10)) α 4999 = row (B11_12) 56 #[.iface 52 (.pointer (some ⟨B11_4, 0, none⟩)), .int .i32 tl, .iface 40 (.pointer (some ⟨B11_7, 0, none⟩)), .int .i32 kl, .int .i32 0, .int .u8 0, .bool false, .bool false, .bool false] := rfl
    have e5 : rL1R src m tl kl ll loc kv v nd2 nd3 nd5 nd6 B11_19 B11_18 B11_17 B11_16 B11_15 B11_13 B11_12 B11_11 B11_10 B11_9 B11_7 B11_6 B11_4 B11_3 B11_2 B11 nd14 nd15 nd16 nd17 nd18 nd19 nd20 nd21 B22_1 B22 (fun k => decide (k < 10)) α 5999 = row (B11_4) 180 #[.int .u32 src, .int .u32 (m : Int), .bool false, .bool false, .bool false] := rfl
    have e6 : rL1R src m tl kl ll loc kv v nd2 nd3 nd5 nd6 B11_19 B11_18 B11_17 B11_16 B11_15 B11_13 B11_12 B11_11 B11_10 B11_9 B11_7 B11_6 B11_4 B11_3 B11_2 B11 nd14 nd15 nd16 nd17 nd18 nd19 nd20 nd21 B22_1 B22 (fun k => decide (k < 10)) α 6999 = row (B11_7) 182 #[.float .f64 kv] := rfl
    have e7 : rL1R src m tl kl ll loc kv v nd2 nd3 nd5 nd6 B11_19 B11_18 B11_17 B11_16 B11_15 B11_13 B11_12 B11_11 B11_10 B11_9 B11_7 B11_6 B11_4 B11_3 B11_2 B11 nd14 nd15 nd16 nd17 nd18 nd19 nd20 nd21 B22_1 B22 (fun k => decide (k < 10)) α 7999 = row (nd14) 45 #[.iface 38 (.pointer (some ⟨nd16, 0, none⟩)), .int .i32 ll, .iface 42 (.pointer (some ⟨nd15, 0, none⟩)), .int .i32 ll, .int .u8 30, .bool false] := rfl
    have e8 : rL1R src m tl kl ll loc kv v nd2 nd3 nd5 nd6 B11_19 B11_18 B11_17 B11_16 B11_15 B11_13 B11_12 B11_11 B11_10 B11_9 B11_7 B11_6 B11_4 B11_3 B11_2 B11 nd14 nd15 nd16 nd17 nd18 nd19 nd20 nd21 B22_1 B22 (fun k => decide (k < 10)) α 8999 = row (nd15) 45 #[.iface 38 (.pointer (some ⟨nd17, 0, none⟩)), .int .i32 ll, .iface 40 (.pointer (some ⟨B11_16, 0, none⟩)), .int .i32 loc, .int .u8 37, .bool false] := rfl
    have e9 : rL1R src m tl kl ll loc kv v nd2 nd3 nd5 nd6 B11_19 B11_18 B11_17 B11_16 B11_15 B11_13 B11_12 B11_11 B11_10 B11_9 B11_7 B11_6 B11_4 B11_3 B11_2 B11 nd14 nd15 nd16 nd17 nd18 nd19 nd20 nd21 B22_1 B22 (fun k => decide (k < 10)) α 9999 = row (nd16) 56 #[.iface 52 (.pointer (some ⟨nd18, 0, none⟩)), .int .i32 ll, .iface 40 (.pointer (some ⟨nd19, 0, none⟩)), .int .i32 ll, .int .i32 0, .int .u8 0, .bool false, .bool false, .bool false] := rfl
    have e10 : rL1R src m tl kl ll loc kv v nd2 nd3 nd5 nd6 B11_19 B11_18 B11_17 B11_16 B11_15 B11_13 B11_12 B11_11 B11_10 B11_9 B11_7 B11_6 B11_4 B11_3 B11_2 B11 nd14 nd15 nd16 nd17 nd18 nd19 nd20 nd21 B22_1 B22 (fun k => decide (k < 10)) α 10999 = row (nd17) 56 #[.iface 52 (.pointer (some ⟨nd20, 0, none⟩)), .int .i32 ll, .iface 40 (.pointer (some ⟨nd21, 0, none⟩)), .int .i32 ll, .int .i32 0, .int .u8 0, .bool false, .bool false, .bool false] := rfl
    have e11 : rL1R src m tl kl ll loc kv v nd2 nd3 nd5 nd6 B11_19 B11_18 B11_17 B11_16 B11_15 B11_13 B11_12 B11_11 B11_10 B11_9 B11_7 B11_6 B11_4 B11_3 B11_2 B11 nd14 nd15 nd16 nd17 nd18 nd19 nd20 nd21 B22_1 B22 (fun k => decide (k < 10)) α 11999 = row (nd18) 180 #[.int .u32 src, .int .u32 (m : Int), .bool false, .bool false, .bool false] := rfl
    have e12 : rL1R src m tl kl ll loc kv v nd2 nd3 nd5 nd6 B11_19 B11_18 B11_17 B11_16 B11_15 B11_13 B11_12 B11_11 B11_10 B11_9 B11_7 B11_6 B11_4 B11_3 B11_2 B11 nd14 nd15 nd16 nd17 nd18 nd19 nd20 nd21 B22_1 B22 (fun k => decide (k < 10)) α 12999 = row (nd19) 182 #[.float .f64 kv] := rfl
    have e13 : rL1R src m tl kl ll loc kv v nd2 nd3 nd5 nd6 B11_19 B11_18 B11_17 B11_16 B11_15 B11_13 B11_12 B11_11 B11_10 B11_9 B11_7 B11_6 B11_4 B11_3 B11_2 B11 nd14 nd15 nd16 nd17 nd18 nd19 nd20 nd21 B22_1 B22 (fun k => decide (k < 10)) α 13999 = row (nd20) 180 #[.int .u32 src, .int .u32 (m : Int), .bool false, .bool false, .bool false] := rfl
    have e14 : rL1R src m tl kl ll loc kv v nd2 nd3 nd5 nd6 B11_19 B11_18 B11_17 B11_16 B11_15 B11_13 B11_12 B11_11 B11_10 B11_9 B11_7 B11_6 B11_4 B11_3 B11_2 B11 nd14 nd15 nd16 nd17 nd18 nd19 nd20 nd21 B22_1 B22 (fun k => decide (k < 10)) α 14999 = row (nd21) 182 #[.float .f64 kv] := rfl
    have e15 : rL1R src m tl kl ll loc kv v nd2 nd3 nd5 nd6 B11_19 B11_18 B11_17 B11_16 B11_15 B11_13 B11_12 B11_11 B11_10 B11_9 B11_7 B11_6 B11_4 B11_3 B11_2 B11 nd14 nd15 nd16 nd17 nd18 nd19 nd20 nd21 B22_1 B22 (fun k => decide (k < 10)) α 15999 = row (B11_19) 34 #[.iface 40 (.pointer (some ⟨B11_16, 0, none⟩)), .int .i32 loc] := rfl
    have e16 : rL1R src m tl kl ll loc kv v nd2 nd3 nd5 nd6 B11_19 B11_18 B11_17 B11_16 B11_15 B11_13 B11_12 B11_11 B11_10 B11_9 B11_7 B11_6 B11_4 B11_3 B11_2 B11 nd14 nd15 nd16 nd17 nd18 nd19 nd20 nd21 B22_1 B22 (fun k => decide (k < 10)) α 16999 = row (B11_18) 34 #[.iface 38 (.pointer (some ⟨B11_12, 0, none⟩)), .int .i32 ll] := rfl
    have e17 : rL1R src m tl kl ll loc kv v nd2 nd3 nd5 nd6 B11_19 B11_18 B11_17 B11_16 B11_15 B11_13 B11_12 B11_11 B11_10 B11_9 B11_7 B11_6 B11_4 B11_3 B11_2 B11 nd14 nd15 nd16 nd17 nd18 nd19 nd20 nd21 B22_1 B22 (fun k => decide (k < 10)) α 17999 = row (B11_17) 34 #[.iface 40 (.pointer (some ⟨B11_16, 0, none⟩)), .int .i32 loc] := rfl
    have e18 : rL1R src m tl kl ll loc kv v nd2 nd3 nd5 nd6 B11_19 B11_18 B11_17 B11_16 B11_15 B11_13 B11_12 B11_11 B11_10 B11_9 B11_7 B11_6 B11_4 B11_3 B11_2 B11 nd14 nd15 nd16 nd17 nd18 nd19 nd20 nd21 B22_1 B22 (fun k => decide (k < 10)) α 18999 = row (B11_16) 182 #[.float .f64 v] := rfl
    have e19 : rL1R src m tl kl ll loc kv v nd2 nd3 nd5 nd6 B11_19 B11_18 B11_17 B11_16 B11_15 B11_13 B11_12 B11_11 B11_10 B11_9 B11_7 B11_6 B11_4 B11_3 B11_2 B11 nd14 nd15 nd16 nd17 nd18 nd19 nd20 nd21 B22_1 B22 (fun k => decide (k < 10)) α 19999 = row (B11_15) 34 #[.iface 40 (.pointer (some ⟨B11_16, 0, none⟩)), .int .i32 loc] := rfl
    have e20 : rL1R src m tl kl ll loc kv v nd2 nd3 nd5 nd6 B11_19 B11_18 B11_17 B11_16 B11_15 B11_13 B11_12 B11_11 B11_10 B11_9 B11_7 B11_6 B11_4 B11_3 B11_2 B11 nd14 nd15 nd16 nd17 nd18 nd19 nd20 nd21 B22_1 B22 (fun k => decide (k < 10)) α 20999 = row (B11_13) 34 #[.iface 38 (.pointer (some ⟨B11_12, 0, none⟩)), .int .i32 ll] := rfl
    have e21 : rL1R src m tl kl ll loc kv v nd2 nd3 nd5 nd6 B11_19 B11_18 B11_17 B11_16 B11_15 B11_13 B11_12 B11_11 B11_10 B11_9 B11_7 B11_6 B11_4 B11_3 B11_2 B11 nd14 nd15 nd16 nd17 nd18 nd19 nd20 nd21 B22_1 B22 (fun k => decide (k < 10)) α 21999 = row (B11_11) 34 #[.iface 38 (.pointer (some ⟨B11_12, 0, none⟩)), .int .i32 ll] := rfl
    have e22 : rL1R src m tl kl ll loc kv v nd2 nd3 nd5 nd6 B11_19 B11_18 B11_17 B11_16 B11_15 B11_13 B11_12 B11_11 B11_10 B11_9 B11_7 B11_6 B11_4 B11_3 B11_2 B11 nd14 nd15 nd16 nd17 nd18 nd19 nd20 nd21 B22_1 B22 (fun k => decide (k < 10)) α 22999 = row (B11_10) 34 #[.iface 40 (.pointer (some ⟨B11_7, 0, none⟩)), .int .i32 kl] := rfl
    have e23 : rL1R src m tl kl ll loc kv v nd2 nd3 nd5 nd6 B11_19 B11_18 B11_17 B11_16 B11_15 B11_13 B11_12 B11_11 B11_10 B11_9 B11_7 B11_6 B11_4 B11_3 B11_2 B11 nd14 nd15 nd16 nd17 nd18 nd19 nd20 nd21 B22_1 B22 (fun k => decide (k < 10)) α 23999 = row (B11_9) 34 #[.iface 52 (.pointer (some ⟨B11_4, 0, none⟩)), .int .i32 tl] := rfl
    have e24 : rL1R src m tl kl ll loc kv v nd2 nd3 nd5 nd6 B11_19 B11_18 B11_17 B11_16 B11_15 B11_13 B11_12 B11_11 B11_10 B11_9 B11_7 B11_6 B11_4 B11_3 B11_2 B11 nd14 nd15 nd16 nd17 nd18 nd19 nd20 nd21 B22_1 B22 (fun k => decide (k < 10)) α 24999 = row (B11_6) 34 #[.iface 40 (.pointer (some ⟨B11_7, 0, none⟩)), .int .i32 kl] := rfl
    have e25 : rL1R src m tl kl ll loc kv v nd2 nd3 nd5 nd6 B11_19 B11_18 B11_17 B11_16 B11_15 B11_13 B11_12 B11_11 B11_10 B11_9 B11_7 B11_6 B11_4 B11_3 B11_2 B11 nd14 nd15 nd16 nd17 nd18 nd19 nd20 nd21 B22_1 B22 (fun k => decide (k < 10)) α 25999 = row (B11_3) 34 #[.iface 52 (.pointer (some ⟨B11_4, 0, none⟩)), .int .i32 tl] := rfl
    have e26 : rL1R src m tl kl ll loc kv v nd2 nd3 nd5 nd6 B11_19 B11_18 B11_17 B11_16 B11_15 B11_13 B11_12 B11_11 B11_10 B11_9 B11_7 B11_6 B11_4 B11_3 B11_2 B11 nd14 nd15 nd16 nd17 nd18 nd19 nd20 nd21 B22_1 B22 (fun k => decide (k < 10)) α 26999 = row (B11_2) 28 #[.int .u32 src, .int .u32 (m : Int)] := rfl
    have e27 : rL1R src m tl kl ll loc kv v nd2 nd3 nd5 nd6 B11_19 B11_18 B11_17 B11_16 B11_15 B11_13 B11_12 B11_11 B11_10 B11_9 B11_7 B11_6 B11_4 B11_3 B11_2 B11 nd14 nd15 nd16 nd17 nd18 nd19 nd20 nd21 B22_1 B22 (fun k => decide (k < 10)) α 27999 = row (B11) 28 #[.int .u32 src, .int .u32 (m : Int)] := rfl
    have hO : Own w0 u [row (B22_1) 34 #[.iface 42 (.pointer (some ⟨nd14, 0, none⟩)), .int .i32 loc], row (B22) 34 #[.iface 42 (.pointer (some ⟨nd14, 0, none⟩)), .int .i32 loc], row (nd2) 178 nd5, row (nd3) 196 (bumped (bumped nd6 m (0 : Nat)) m (1 : Nat)), row (B11_12) 56 #[.iface 52 (.pointer (some ⟨B11_4, 0, none⟩)), .int .i32 tl, .iface 40 (.pointer (some ⟨B11_7, 0, none⟩)), .int .i32 kl, .int .i32 0, .int .u8 0, .bool false, .bool false, .bool false], row (B11_4) 180 #[.int .u32 src, .int .u32 (m : Int), .bool false, .bool false, .bool false], row (B11_7) 182 #[.float .f64 kv], row (nd14) 45 #[.iface 38 (.pointer (some ⟨nd16, 0, none⟩)), .int .i32 ll, .iface 42 (.pointer (some ⟨nd15, 0, none⟩)), .int .i32 ll, .int .u8 30, .bool false], row (nd15) 45 #[.iface 38 (.pointer (some ⟨nd17, 0, none⟩)), .int .i32 ll, .iface 40 (.pointer (some ⟨B11_16, 0, none⟩)), .int .i32 loc, .int .u8 37, .bool false], row (nd16) 56 #[.iface 52 (.pointer (some ⟨nd18, 0, none⟩)), .int .i32 ll, .iface 40 (.pointer (some ⟨nd19, 0, none⟩)), .int .i32 ll, .int .i32 0, .int .u8 0, .bool false, .bool false, .bool false], row (nd17) 56 #[.iface 52 (.pointer (some ⟨nd20, 0, none⟩)), .int .i32 ll, .iface 40 (.pointer (some ⟨nd21, 0, none⟩)), .int .i32 ll, .int .i32 0, .int .u8 0, .bool false, .bool false, .bool false], row (nd18) 180 #[.int .u32 src, .int .u32 (m : Int), .bool false, .bool false, .bool false], row (nd19) 182 #[.float .f64 kv], row (nd20) 180 #[.int .u32 src, .int .u32 (m : Int), .bool false, .bool false, .bool false], row (nd21) 182 #[.float .f64 kv], row (B11_19) 34 #[.iface 40 (.pointer (some ⟨B11_16, 0, none⟩)), .int .i32 loc], row (B11_18) 34 #[.iface 38 (.pointer (some ⟨B11_12, 0, none⟩)), .int .i32 ll], row (B11_17) 34 #[.iface 40 (.pointer (some ⟨B11_16, 0, none⟩)), .int .i32 loc], row (B11_16) 182 #[.float .f64 v], row (B11_15) 34 #[.iface 40 (.pointer (some ⟨B11_16, 0, none⟩)), .int .i32 loc], row (B11_13) 34 #[.iface 38 (.pointer (some ⟨B11_12, 0, none⟩)), .int .i32 ll], row (B11_11) 34 #[.iface 38 (.pointer (some ⟨B11_12, 0, none⟩)), .int .i32 ll], row (B11_10) 34 #[.iface 40 (.pointer (some ⟨B11_7, 0, none⟩)), .int .i32 kl], row (B11_9) 34 #[.iface 52 (.pointer (some ⟨B11_4, 0, none⟩)), .int .i32 tl], row (B11_6) 34 #[.iface 40 (.pointer (some ⟨B11_7, 0, none⟩)), .int .i32 kl], row (B11_3) 34 #[.iface 52 (.pointer (some ⟨B11_4, 0, none⟩)), .int .i32 tl], row (B11_2) 28 #[.int .u32 src, .int .u32 (m : Int)], row (B11) 28 #[.int .u32 src, .int .u32 (m : Int)]] X := (hG.list [999, 1999, 2999, 3999, 4999, 5999, 6999, 7999, 8999, 9999, 10999, 11999, 12999, 13999, 14999, 15999, 16999, 17999, 18999, 19999, 20999, 21999, 22999, 23999, 24999, 25999, 26999, 27999] (by decide) (act_all (by decide))).conv (by
      show [rL1R src m tl kl ll loc kv v nd2 nd3 nd5 nd6 B11_19 B11_18 B11_17 B11_16 B11_15 B11_13 B11_12 B11_11 B11_10 B11_9 B11_7 B11_6 B11_4 B11_3 B11_2 B11 nd14 nd15 nd16 nd17 nd18 nd19 nd20 nd21 B22_1 B22 (fun k => decide (k < 10)) α 999, rL1R src m tl kl ll loc kv v nd2 nd3 nd5 nd6 B11_19 B11_18 B11_17 B11_16 B11_15 B11_13 B11_12 B11_11 B11_10 B11_9 B11_7 B11_6 B11_4 B11_3 B11_2 B11 nd14 nd15 nd16 nd17 nd18 nd19 nd20 nd21 B22_1 B22 (fun k => decide (k < 10)) α 1999, rL1R src m tl kl ll loc kv v nd2 nd3 nd5 nd6 B11_19 B11_18 B11_17 B11_16 B11_15 B11_13 B11_12 B11_11 B11_10 B11_9 B11_7 B11_6 B11_4 B11_3 B11_2 B11 nd14 nd15 nd16 nd17 nd18 nd19 nd20 nd21 B22_1 B22 (fun k => decide (k < 10)) α 2999, rL1R src m tl kl ll loc kv v nd2 nd3 nd5 nd6 B11_19 B11_18 B11_17 B11_16 B11_15 B11_13 B11_12 B11_11 B11_10 B11_9 B11_7 B11_6 B11_4 B11_3 B11_2 B11 nd14 nd15 nd16 nd17 nd18 nd19 nd20 nd21 B22_1 B22 (fun k => decide (k < 10)) α 3999, rL1R src m tl kl ll loc kv v nd2 nd3 nd5 nd6 B11_19 B11_18 B11_17 B11_16 B11_15 B11_13 B11_12 B11_11 B11_10 B11_9 B11_7 B11_6 B11_4 B11_3 B11_2 B11 nd14 nd15 nd16 nd17 nd18 nd19 nd20 nd21 B22_1 B22 (fun k => decide (k < 10)) α 4999, rL1R src m tl kl ll loc kv v nd2 nd3 nd5 nd6 B11_19 B11_18 B11_17 B11_16 B11_15 B11_13 B11_12 B11_11 B11_10 B11_9 B11_7 B11_6 B11_4 B11_3 B11_2 B11 nd14 nd15 nd16 nd17 nd18 nd19 nd20 nd21 B22_1 B22 (fun k => decide (k < 10)) α 5999, rL1R src m tl kl ll loc kv v nd2 nd3 nd5 nd6 B11_19 B11_18 B11_17 B11_16 B11_15 B11_13 B11_12 B11_11 B11_10 B11_9 B11_7 B11_6 B11_4 B11_3 B11_2 B11 nd14 nd15 nd16 nd17 nd18 nd19 nd20 nd21 B22_1 B22 (fun k => decide (k < 10)) α 6999, rL1R src m tl kl ll loc kv v nd2 nd3 nd5 nd6 B11_19 B11_18 B11_17 B11_16 B11_15 B11_13 B11_12 B11_11 B11_10 B11_9 B11_7 B11_6 B11_4 B11_3 B11_2 B11 nd14 nd15 nd16 nd17 nd18 nd19 nd20 nd21 B22_1 B22 (fun k => decide (k < 10)) α 7999, rL1R src m tl kl ll loc kv v nd2 nd3 nd5 nd6 B11_19 B11_18 B11_17 B11_16 B11_15 B11_13 B11_12 B11_11 B11_10 B11_9 B11_7 B11_6 B11_4 B11_3 B11_2 B11 nd14 nd15 nd16 nd17 nd18 nd19 nd20 nd21 B22_1 B22 (fun k => decide (k < 10)) α 8999, rL1R src m tl kl ll loc kv v nd2 nd3 nd5 nd6 B11_19 B11_18 B11_17 B11_16 B11_15 B11_13 B11_12 B11_11 B11_10 B11_9 B11_7 B11_6 B11_4 B11_3 B11_2 B11 nd14 nd15 nd16 nd17 nd18 nd19 nd20 nd21 B22_1 B22 (fun k => decide (k < 10)) α 9999, rL1R src m tl kl ll loc kv v nd2 nd3 nd5 nd6 B11_19 B11_18 B11_17 B11_16 B11_15 B11_13 B11_12 B11_11 B11_10 B11_9 B11_7 B11_6 B11_4 B11_3 B11_2 B11 nd14 nd15 nd16 nd17 nd18 nd19 nd20 nd21 B22_1 B22 (fun k => decide (k < 10)) α 10999, rL1R src m tl kl ll loc kv v nd2 nd3 nd5 nd6 B11_19 B11_18 B11_17 B11_16 B11_15 B11_13 B11_12 B11_11 B11_10 B11_9 B11_7 B11_6 B11_4 B11_3 B11_2 B11 nd14 nd15 nd16 nd17 nd18 nd19 nd20 nd21 B22_1 B22 (fun k => decide (k < 10)) α 11999, rL1R src m tl kl ll loc kv v nd2 nd3 nd5 nd6 B11_19 B11_18 B11_17 B11_16 B11_15 B11_13 B11_12 B11_11 B11_10 B11_9 B11_7 B11_6 B11_4 B11_3 B11_2 B11 nd14 nd15 nd16 nd17 nd18 nd19 nd20 nd21 B22_1 B22 (fun k => decide (k < 10)) α 12999, rL1R src m tl kl ll loc kv v nd2 nd3 nd5 nd6 B11_19 B11_18 B11_17 B11_16 B11_15 B11_13 B11_12 B11_11 B11_10 B11_9 B11_7 B11_6 B11_4 B11_3 B11_2 B11 nd14 nd15 nd16 nd17 nd18 nd19 nd20 nd21 B22_1 B22 (fun k => decide (k < 10)) α 13999, rL1R src m tl kl ll loc kv v nd2 nd3 nd5 nd6 B11_19 B11_18 B11_17 B11_16 B11_15 B11_13 B11_12 B11_11 B11_10 B11_9 B11_7 B11_6 B11_4 B11_3 B11_2 B11 nd14 nd15 nd16 nd17 nd18 nd19 nd20 nd21 B22_1 B22 (fun k => decide (k < 10)) α 14999, rL1R src m tl kl ll loc kv v nd2 nd3 nd5 nd6 B11_19 B11_18 B11_17 B11_16 B11_15 B11_13 B11_12 B11_11 B11_10 B11_9 B11_7 B11_6 B11_4 B11_3 B11_2 B11 nd14 nd15 nd16 nd17 nd18 nd19 nd20 nd21 B22_1 B22 (fun k => decide (k < 10)) α 15999, rL1R src m tl kl ll loc kv v nd2 nd3 nd5 nd6 B11_19 B11_18 B11_17 B11_16 B11_15 B11_13 B11_12 B11_11 B11_10 B11_9 B11_7 B11_6 B11_4 B11_3 B11_2 B11 nd14 nd15 nd16 nd17 nd18 nd19 nd20 nd21 B22_1 B22 (fun k => decide (k < 10)) α 16999, rL1R src m tl kl ll loc kv v nd2 nd3 nd5 nd6 B11_19 B11_18 B11_17 B11_16 B11_15 B11_13 B11_12 B11_11 B11_10 B11_9 B11_7 B11_6 B11_4 B11_3 B11_2 B11 nd14 nd15 nd16 nd17 nd18 nd19 nd20 nd21 B22_1 B22 (fun k => decide (k < 10)) α 17999, rL1R src m tl kl ll loc kv v nd2 nd3 nd5 nd6 B11_19 B11_18 B11_17 B11_16 B11_15 B11_13 B11_12 B11_11 B11_10 B11_9 B11_7 B11_6 B11_4 B11_3 B11_2 B11 nd14 nd15 nd16 nd17 nd18 nd19 nd20 nd21 B22_1 B22 (fun k => decide (k < 10)) α 18999, rL1R src m tl kl ll loc kv v nd2 nd3 nd5 nd6 B11_19 B11_18 B11_17 B11_16 B11_15 B11_13 B11_12 B11_11 B11_10 B11_9 B11_7 B11_6 B11_4 B11_3 B11_2 B11 nd14 nd15 nd16 nd17 nd18 nd19 nd20 nd21 B22_1 B22 (fun k => decide (k < 10)) α 19999, rL1R src m tl kl ll loc kv v nd2 nd3 nd5 nd6 B11_19 B11_18 B11_17 B11_16 B11_15 B11_13 B11_12 B11_11 B11_10 B11_9 B11_7 B11_6 B11_4 B11_3 B11_2 B11 nd14 nd15 nd16 nd17 nd18 nd19 nd20 nd21 B22_1 B22 (fun k => decide (k < 10)) α 20999, rL1R src m tl kl ll loc kv v nd2 nd3 nd5 nd6 B11_19 B11_18 B11_17 B11_16 B11_15 B11_13 B11_12 B11_11 B11_10 B11_9 B11_7 B11_6 B11_4 B11_3 B11_2 B11 nd14 nd15 nd16 nd17 nd18 nd19 nd20 nd21 B22_1 B22 (fun k => decide (k < 10)) α 21999, rL1R src m tl kl ll loc kv v nd2 nd3 nd5 nd6 B11_19 B11_18 B11_17 B11_16 B11_15 B11_13 B11_12 B11_11 B11_10 B11_9 B11_7 B11_6 B11_4 B11_3 B11_2 B11 nd14 nd15 nd16 nd17 nd18 nd19 nd20 nd21 B22_1 B22 (fun k => decide (k < 10)) α 22999, rL1R src m tl kl ll loc kv v nd2 nd3 nd5 nd6 B11_19 B11_18 B11_17 B11_16 B11_15 B11_13 B11_12 B11_11 B11_10 B11_9 B11_7 B11_6 B11_4 B11_3 B11_2 B11 nd14 nd15 nd16 nd17 nd18 nd19 nd20 nd21 B22_1 B22 (fun k => decide (k < 10)) α 23999, rL1R src m tl kl ll loc kv v nd2 nd3 nd5 nd6 B11_19 B11_18 B11_17 B11_16 B11_15 B11_13 B11_12 B11_11 B11_10 B11_9 B11_7 B11_6 B11_4 B11_3 B11_2 B11 nd14 nd15 nd16 nd17 nd18 nd19 nd20 nd21 B22_1 B22 (fun k => decide (k < 10)) α 24999, rL1R src m tl kl ll loc kv v nd2 nd3 nd5 nd6 B11_19 B11_18 B11_17 B11_16 B11_15 B11_13 B11_12 B11_11 B11_10 B11_9 B11_7 B11_6 B11_4 B11_3 B11_2 B11 nd14 nd15 nd16 nd17 nd18 nd19 nd20 nd21 B22_1 B22 (fun k => decide (k < 10)) α 25999, rL1R src m tl kl ll loc kv v nd2 nd3 nd5 nd6 B11_19 B11_18 B11_17 B11_16 B11_15 B11_13 B11_12 B11_11 B11_10 B11_9 B11_7 B11_6 B11_4 B11_3 B11_2 B11 nd14 nd15 nd16 nd17 nd18 nd19 nd20 nd21 B22_1 B22 (fun k => decide (k < 10)) α 26999, rL1R src m tl kl ll loc kv v nd2 nd3 nd5 nd6 B11_19 B11_18 B11_17 B11_16 B11_15 B11_13 B11_12 B11_11 B11_10 B11_9 B11_7 B11_6 B11_4 B11_3 B11_2 B11 nd14 nd15 nd16 nd17 nd18 nd19 nd20 nd21 B22_1 B22 (fun k => decide (k < 10)) α 27999] = _
      rw [e0, e1, e2, e3, e4, e5, e6, e7, e8, e9, e10, e11, e12, e13, e14, e15, e16, e17, e18, e19, e20, e21, e22, e23, e24, e25, e26, e27])
    clear hG e0 e1 e2 e3 e4 e5 e6 e7 e8 e9 e10 e11 e12 e13 e14 e15 e16 e17 e18 e19 e20 e21 e22 e23 e24 e25 e26 e27
    generalize hfr : Rega.frameAt _ _ _ _ _ = fr
    have hdf : fr = ⟨#[.int .u64 x, .int .u32 src, .int .u32 (m : Int), .int .i32 tl, .int .i32 kl, .int .i32 ll, .int .i32 loc, .float .f64 kv, .float .f64 v, undef, undef, undef, undef, undef, undef, undef, undef, undef, .bool false, .int .i64 ((m : Int) + 1), .pointer (some ⟨nd2, 0, none⟩), .pointer (some ⟨B11, 0, none⟩), .pointer (some ⟨B11_13, 0, none⟩), .pointer (some ⟨B11_17, 0, none⟩), .pointer (some ⟨B11_12, 0, none⟩), .pointer (some ⟨B11_16, 0, none⟩), .pointer (some ⟨B11_20, 0, none⟩), .pointer (some ⟨B22, 0, none⟩), .bool true, .pointer (some ⟨nd14, 0, none⟩), .pointer (some ⟨nd16, 0, none⟩), undef, undef, .int .u32 (m : Int), .bool (decide (65536 < (m : Int))), .int .u64 x, .int .u64 (bits BinOp.and .u64 x 4398046511104), .bool false, .int .u32 (m : Int), .int .i64 (m : Int), .int .i64 ((m : Int) + 1), .int .u64 x, .int .i64 ((m : Int) + 1), .agg #[.int .u32 0, .int .u32 0], .pointer (some ⟨nd2, 0, none⟩), .int .u32 src, .int .u32 (m : Int), .agg #[.int .u32 src, .int .u32 (m : Int)], .int .i32 ll, .agg #[.int .i32 ll], .int .i32 tl, .agg #[.int .i32 tl], .agg #[.int .u32 src, .int .u32 (m : Int)], .agg #[.iface 52 (.pointer (some ⟨B11_4, 0, none⟩)), .int .i32 tl], .int .i32 kl, .agg #[.int .i32 kl], .float .f64 kv, .agg #[.iface 40 (.pointer (some ⟨B11_7, 0, none⟩)), .int .i32 kl], .agg #[.iface 38 (.pointer (some ⟨B11_12, 0, none⟩)), .int .i32 ll], .int .i32 loc, .agg #[.int .i32 loc], .float .f64 v, .agg #[.iface 40 (.pointer (some ⟨B11_16, 0, none⟩)), .int .i32 loc], .agg #[.iface 38 (.pointer (some ⟨B11_12, 0, none⟩)), .int .i32 ll], .pointer (some ⟨B11_12, 0, none⟩), .agg #[.iface 40 (.pointer (some ⟨B11_16, 0, none⟩)), .int .i32 loc], .pointer (some ⟨B11_16, 0, none⟩), .agg #[.iface 38 (.pointer (some ⟨B11_12, 0, none⟩)), .int .i32 ll], .agg #[.iface 40 (.pointer (some ⟨B11_16, 0, none⟩)), .int .i32 loc], .agg #[.iface 38 (.pointer (some ⟨B11_12, 0, none⟩)), .int .i32 ll, .iface 40 (.pointer (some ⟨B11_16, 0, none⟩)), .int .i32 loc, .int .u8 0, .bool false], .pointer (some ⟨B11_20, 0, none⟩), .tuple #[.agg #[.iface 42 (.pointer (some ⟨nd14, 0, none⟩)), .int .i32 loc], .bool true], .pointer (some ⟨nd2, 0, none⟩), .int .i32 loc, .agg #[.int .i32 loc], .pointer (some ⟨B11_20, 0, none⟩), .tuple #[.agg #[.iface 42 (.pointer (some ⟨nd14, 0, none⟩)), .int .i32 loc], .bool true], .agg #[.iface 42 (.pointer (some ⟨nd14, 0, none⟩)), .int .i32 loc], .bool true, .int .u64 x, .int .u64 (bits BinOp.and .u64 x 137438953472), .bool (bits BinOp.and .u64 x 137438953472 == 0), undef, undef, undef, undef, undef, undef, undef, undef, undef, undef, undef, undef, undef, undef, undef, undef, undef, undef, .bool true, .bool false, .bool false, .pointer (some ⟨B22, 1, none⟩), .pointer (some ⟨B22, 1, none⟩), .int .i32 loc, .int .i32 loc, .bool false, .bool false, .agg #[.iface 42 (.pointer (some ⟨nd14, 0, none⟩)), .int .i32 loc], .pointer (some ⟨nd14, 0, none⟩), .pointer (some ⟨nd14, 0, none⟩), .bool false, .bool false, .pointer (some ⟨nd14, 0, none⟩), .pointer (some ⟨nd14, 0, none⟩), .pointer (some ⟨nd14, 4, none⟩), .int .u8 30, .bool false, .bool false, .pointer (some ⟨nd14, 0, none⟩), .pointer (some ⟨nd14, 0, none⟩), .pointer (some ⟨nd14, 0, none⟩), .agg #[.iface 38 (.pointer (some ⟨nd16, 0, none⟩)), .int .i32 ll], .int .i32 ll, .agg #[.int .u32 src, .int .u32 (m : Int)], .float .f64 kv, .pointer (some ⟨B11_12, 0, none⟩), .pointer (some ⟨nd16, 0, none⟩), undef, undef, undef, undef, undef, undef, undef, undef, undef, undef, undef, undef, undef, undef, undef, undef, undef, undef, undef, undef, undef, undef, undef, undef, undef, undef, undef, undef, undef, undef, undef, undef, undef, undef, undef, undef, undef, undef, undef, undef, undef, undef, undef, undef, undef, undef, undef, undef, undef, undef, undef, undef, undef, undef, undef, undef, undef, undef, undef, undef, undef, undef, undef, undef, undef, undef, undef, undef, undef, undef, undef, undef, undef, undef, undef, undef, undef, undef], []⟩ := by rw [← hfr]; kernel_rfl
    clear hfr
    subst hdf
    clear α
    have pl9_4 : Base.plainAt u (B11_12) = true := hO.plain 4 rfl
    have pl9_9 : Base.plainAt u (nd16) = true := hO.plain 9 rfl
    have pl9_10 : Base.plainAt u (nd17) = true := hO.plain 10 rfl
    have pl9_11 : Base.plainAt u (nd18) = true := hO.plain 11 rfl
    have pl9_12 : Base.plainAt u (nd19) = true := hO.plain 12 rfl
    have pl9_13 : Base.plainAt u (nd20) = true := hO.plain 13 rfl
    have pl9_14 : Base.plainAt u (nd21) = true := hO.plain 14 rfl
    have ne9_4_9 : ¬ B11_12 = nd16 := hO.ne 4 9 rfl rfl (by decide)
    have ne9_4_10 : ¬ B11_12 = nd17 := hO.ne 4 10 rfl rfl (by decide)
    have ne9_9_4 : ¬ nd16 = B11_12 := hO.ne 9 4 rfl rfl (by decide)
    have ne9_9_10 : ¬ nd16 = nd17 := hO.ne 9 10 rfl rfl (by decide)
    have ne9_10_4 : ¬ nd17 = B11_12 := hO.ne 10 4 rfl rfl (by decide)
    have ne9_10_9 : ¬ nd17 = nd16 := hO.ne 10 9 rfl rfl (by decide)
    have ne9_11_13 : ¬ nd18 = nd20 := hO.ne 11 13 rfl rfl (by decide)
    have ne9_12_14 : ¬ nd19 = nd21 := hO.ne 12 14 rfl rfl (by decide)
    have ne9_13_11 : ¬ nd20 = nd18 := hO.ne 13 11 rfl rfl (by decide)
    have ne9_14_12 : ¬ nd21 = nd19 := hO.ne 14 12 rfl rfl (by decide)
    have c9_0_0 : u.cell? ⟨B22_1, 0, none⟩ = some (.iface 42 (.pointer (some ⟨nd14, 0, none⟩))) := hO.cell 0 rfl 0 rfl
    have c9_0_1 : u.cell? ⟨B22_1, 1, none⟩ = some (.int .i32 loc) := hO.cell 0 rfl 1 rfl
    have lt9_0 : B22_1 < u.heap.size := hO.lt 0 rfl
    have y9_0 : ∀ o, u.frozen? ⟨B22_1, o, none⟩ = false := hO.free 0 rfl
    have c9_1_0 : u.cell? ⟨B22, 0, none⟩ = some (.iface 42 (.pointer (some ⟨nd14, 0, none⟩))) := hO.cell 1 rfl 0 rfl
    have c9_1_1 : u.cell? ⟨B22, 1, none⟩ = some (.int .i32 loc) := hO.cell 1 rfl 1 rfl
    have lt9_1 : B22 < u.heap.size := hO.lt 1 rfl
    have y9_1 : ∀ o, u.frozen? ⟨B22, o, none⟩ = false := hO.free 1 rfl
    have c9_4_0 : u.cell? ⟨B11_12, 0, none⟩ = some (.iface 52 (.pointer (some ⟨B11_4, 0, none⟩))) := hO.cell 4 rfl 0 rfl
    have c9_4_1 : u.cell? ⟨B11_12, 1, none⟩ = some (.int .i32 tl) := hO.cell 4 rfl 1 rfl
    have c9_4_2 : u.cell? ⟨B11_12, 2, none⟩ = some (.iface 40 (.pointer (some ⟨B11_7, 0, none⟩))) := hO.cell 4 rfl 2 rfl
    have c9_4_3 : u.cell? ⟨B11_12, 3, none⟩ = some (.int .i32 kl) := hO.cell 4 rfl 3 rfl
    have c9_4_4 : u.cell? ⟨B11_12, 4, none⟩ = some (.int .i32 0) := hO.cell 4 rfl 4 rfl
    have c9_4_5 : u.cell? ⟨B11_12, 5, none⟩ = some (.int .u8 0) := hO.cell 4 rfl 5 rfl
    have c9_4_6 : u.cell? ⟨B11_12, 6, none⟩ = some (.bool false) := hO.cell 4 rfl 6 rfl
    have c9_4_7 : u.cell? ⟨B11_12, 7, none⟩ = some (.bool false) := hO.cell 4 rfl 7 rfl
    have c9_4_8 : u.cell? ⟨B11_12, 8, none⟩ = some (.bool false) := hO.cell 4 rfl 8 rfl
    have lt9_4 : B11_12 < u.heap.size := hO.lt 4 rfl
    have y9_4 : ∀ o, u.frozen? ⟨B11_12, o, none⟩ = false := hO.free 4 rfl
    have c9_5_0 : u.cell? ⟨B11_4, 0, none⟩ = some (.int .u32 src) := hO.cell 5 rfl 0 rfl
    have c9_5_1 : u.cell? ⟨B11_4, 1, none⟩ = some (.int .u32 (m : Int)) := hO.cell 5 rfl 1 rfl
    have c9_5_2 : u.cell? ⟨B11_4, 2, none⟩ = some (.bool false) := hO.cell 5 rfl 2 rfl
    have c9_5_3 : u.cell? ⟨B11_4, 3, none⟩ = some (.bool false) := hO.cell 5 rfl 3 rfl
    have c9_5_4 : u.cell? ⟨B11_4, 4, none⟩ = some (.bool false) := hO.cell 5 rfl 4 rfl
    have lt9_5 : B11_4 < u.heap.size := hO.lt 5 rfl
    have y9_5 : ∀ o, u.frozen? ⟨B11_4, o, none⟩ = false := hO.free 5 rfl
    have c9_6_0 : u.cell? ⟨B11_7, 0, none⟩ = some (.float .f64 kv) := hO.cell 6 rfl 0 rfl
    have lt9_6 : B11_7 < u.heap.size := hO.lt 6 rfl
    have y9_6 : ∀ o, u.frozen? ⟨B11_7, o, none⟩ = false := hO.free 6 rfl
    have c9_7_0 : u.cell? ⟨nd14, 0, none⟩ = some (.iface 38 (.pointer (some ⟨nd16, 0, none⟩))) := hO.cell 7 rfl 0 rfl
    have c9_7_1 : u.cell? ⟨nd14, 1, none⟩ = some (.int .i32 ll) := hO.cell 7 rfl 1 rfl
    have c9_7_2 : u.cell? ⟨nd14, 2, none⟩ = some (.iface 42 (.pointer (some ⟨nd15, 0, none⟩))) := hO.cell 7 rfl 2 rfl
    have c9_7_3 : u.cell? ⟨nd14, 3, none⟩ = some (.int .i32 ll) := hO.cell 7 rfl 3 rfl
    have c9_7_4 : u.cell? ⟨nd14, 4, none⟩ = some (.int .u8 30) := hO.cell 7 rfl 4 rfl
    have c9_7_5 : u.cell? ⟨nd14, 5, none⟩ = some (.bool false) := hO.cell 7 rfl 5 rfl
    have lt9_7 : nd14 < u.heap.size := hO.lt 7 rfl
    have y9_7 : ∀ o, u.frozen? ⟨nd14, o, none⟩ = false := hO.free 7 rfl
    have c9_8_0 : u.cell? ⟨nd15, 0, none⟩ = some (.iface 38 (.pointer (some ⟨nd17, 0, none⟩))) := hO.cell 8 rfl 0 rfl
    have c9_8_1 : u.cell? ⟨nd15, 1, none⟩ = some (.int .i32 ll) := hO.cell 8 rfl 1 rfl
    have c9_8_2 : u.cell? ⟨nd15, 2, none⟩ = some (.iface 40 (.pointer (some ⟨B11_16, 0, none⟩))) := hO.cell 8 rfl 2 rfl
    have c9_8_3 : u.cell? ⟨nd15, 3, none⟩ = some (.int .i32 loc) := hO.cell 8 rfl 3 rfl
    have c9_8_4 : u.cell? ⟨nd15, 4, none⟩ = some (.int .u8 37) := hO.cell 8 rfl 4 rfl
    have c9_8_5 : u.cell? ⟨nd15, 5, none⟩ = some (.bool false) := hO.cell 8 rfl 5 rfl
    have lt9_8 : nd15 < u.heap.size := hO.lt 8 rfl
    have y9_8 : ∀ o, u.frozen? ⟨nd15, o, none⟩ = false := hO.free 8 rfl
    have c9_9_0 : u.cell? ⟨nd16, 0, none⟩ = some (.iface 52 (.pointer (some ⟨nd18, 0, none⟩))) := hO.cell 9 rfl 0 rfl
    have c9_9_1 : u.cell? ⟨nd16, 1, none⟩ = some (.int .i32 ll) := hO.cell 9 rfl 1 rfl
    have c9_9_2 : u.cell? ⟨nd16, 2, none⟩ = some (.iface 40 (.pointer (some ⟨nd19, 0, none⟩))) := hO.cell 9 rfl 2 rfl
    have c9_9_3 : u.cell? ⟨nd16, 3, none⟩ = some (.int .i32 ll) := hO.cell 9 rfl 3 rfl
    have c9_9_4 : u.cell? ⟨nd16, 4, none⟩ = some (.int .i32 0) := hO.cell 9 rfl 4 rfl
    have c9_9_5 : u.cell? ⟨nd16, 5, none⟩ = some (.int .u8 0) := hO.cell 9 rfl 5 rfl
    have c9_9_6 : u.cell? ⟨nd16, 6, none⟩ = some (.bool false) := hO.cell 9 rfl 6 rfl
    have c9_9_7 : u.cell? ⟨nd16, 7, none⟩ = some (.bool false) := hO.cell 9 rfl 7 rfl
    have c9_9_8 : u.cell? ⟨nd16, 8, none⟩ = some (.bool false) := hO.cell 9 rfl 8 rfl
    have lt9_9 : nd16 < u.heap.size := hO.lt 9 rfl
    have y9_9 : ∀ o, u.frozen? ⟨nd16, o, none⟩ = false := hO.free 9 rfl
    have c9_10_0 : u.cell? ⟨nd17, 0, none⟩ = some (.iface 52 (.pointer (some ⟨nd20, 0, none⟩))) := hO.cell 10 rfl 0 rfl
    have c9_10_1 : u.cell? ⟨nd17, 1, none⟩ = some (.int .i32 ll) := hO.cell 10 rfl 1 rfl
    have c9_10_2 : u.cell? ⟨nd17, 2, none⟩ = some (.iface 40 (.pointer (some ⟨nd21, 0, none⟩))) := hO.cell 10 rfl 2 rfl
    have c9_10_3 : u.cell? ⟨nd17, 3, none⟩ = some (.int .i32 ll) := hO.cell 10 rfl 3 rfl
    have c9_10_4 : u.cell? ⟨nd17, 4, none⟩ = some (.int .i32 0) := hO.cell 10 rfl 4 rfl
    have c9_10_5 : u.cell? ⟨nd17, 5, none⟩ = some (.int .u8 0) := hO.cell 10 rfl 5 rfl
    have c9_10_6 : u.cell? ⟨nd17, 6, none⟩ = some (.bool false) := hO.cell 10 rfl 6 rfl
    have c9_10_7 : u.cell? ⟨nd17, 7, none⟩ = some (.bool false) := hO.cell 10 rfl 7 rfl
    have c9_10_8 : u.cell? ⟨nd17, 8, none⟩ = some (.bool false) := hO.cell 10 rfl 8 rfl
    have lt9_10 : nd17 < u.heap.size := hO.lt 10 rfl
    have y9_10 : ∀ o, u.frozen? ⟨nd17, o, none⟩ = false := hO.free 10 rfl
    have c9_11_0 : u.cell? ⟨nd18, 0, none⟩ = some (.int .u32 src) := hO.cell 11 rfl 0 rfl
    have c9_11_1 : u.cell? ⟨nd18, 1, none⟩ = some (.int .u32 (m : Int)) := hO.cell 11 rfl 1 rfl
    have c9_11_2 : u.cell? ⟨nd18, 2, none⟩ = some (.bool false) := hO.cell 11 rfl 2 rfl
    have c9_11_3 : u.cell? ⟨nd18, 3, none⟩ = some (.bool false) := hO.cell 11 rfl 3 rfl
    have c9_11_4 : u.cell? ⟨nd18, 4, none⟩ = some (.bool false) := hO.cell 11 rfl 4 rfl
    have lt9_11 : nd18 < u.heap.size := hO.lt 11 rfl
    have y9_11 : ∀ o, u.frozen? ⟨nd18, o, none⟩ = false := hO.free 11 rfl
    have c9_12_0 : u.cell? ⟨nd19, 0, none⟩ = some (.float .f64 kv) := hO.cell 12 rfl 0 rfl
    have lt9_12 : nd19 < u.heap.size := hO.lt 12 rfl
    have y9_12 : ∀ o, u.frozen? ⟨nd19, o, none⟩ = false := hO.free 12 rfl
    have c9_13_0 : u.cell? ⟨nd20, 0, none⟩ = some (.int .u32 src) := hO.cell 13 rfl 0 rfl
    have c9_13_1 : u.cell? ⟨nd20, 1, none⟩ = some (.int .u32 (m : Int)) := hO.cell 13 rfl 1 rfl
    have c9_13_2 : u.cell? ⟨nd20, 2, none⟩ = some (.bool false) := hO.cell 13 rfl 2 rfl
    have c9_13_3 : u.cell? ⟨nd20, 3, none⟩ = some (.bool false) := hO.cell 13 rfl 3 rfl
    have c9_13_4 : u.cell? ⟨nd20, 4, none⟩ = some (.bool false) := hO.cell 13 rfl 4 rfl
    have lt9_13 : nd20 < u.heap.size := hO.lt 13 rfl
    have y9_13 : ∀ o, u.frozen? ⟨nd20, o, none⟩ = false := hO.free 13 rfl
    have c9_14_0 : u.cell? ⟨nd21, 0, none⟩ = some (.float .f64 kv) := hO.cell 14 rfl 0 rfl
    have lt9_14 : nd21 < u.heap.size := hO.lt 14 rfl
    have y9_14 : ∀ o, u.frozen? ⟨nd21, o, none⟩ = false := hO.free 14 rfl
    have c9_15_0 : u.cell? ⟨B11_19, 0, none⟩ = some (.iface 40 (.pointer (some ⟨B11_16, 0, none⟩))) := hO.cell 15 rfl 0 rfl
    have c9_15_1 : u.cell? ⟨B11_19, 1, none⟩ = some (.int .i32 loc) := hO.cell 15 rfl 1 rfl
    have lt9_15 : B11_19 < u.heap.size := hO.lt 15 rfl
    have y9_15 : ∀ o, u.frozen? ⟨B11_19, o, none⟩ = false := hO.free 15 rfl
    have c9_16_0 : u.cell? ⟨B11_18, 0, none⟩ = some (.iface 38 (.pointer (some ⟨B11_12, 0, none⟩))) := hO.cell 16 rfl 0 rfl
    have c9_16_1 : u.cell? ⟨B11_18, 1, none⟩ = some (.int .i32 ll) := hO.cell 16 rfl 1 rfl
    have lt9_16 : B11_18 < u.heap.size := hO.lt 16 rfl
    have y9_16 : ∀ o, u.frozen? ⟨B11_18, o, none⟩ = false := hO.free 16 rfl
    have c9_17_0 : u.cell? ⟨B11_17, 0, none⟩ = some (.iface 40 (.pointer (some ⟨B11_16, 0, none⟩))) := hO.cell 17 rfl 0 rfl
    have c9_17_1 : u.cell? ⟨B11_17, 1, none⟩ = some (.int .i32 loc) := hO.cell 17 rfl 1 rfl
    have lt9_17 : B11_17 < u.heap.size := hO.lt 17 rfl
    have y9_17 : ∀ o, u.frozen? ⟨B11_17, o, none⟩ = false := hO.free 17 rfl
    have c9_18_0 : u.cell? ⟨B11_16, 0, none⟩ = some (.float .f64 v) := hO.cell 18 rfl 0 rfl
    have lt9_18 : B11_16 < u.heap.size := hO.lt 18 rfl
    have y9_18 : ∀ o, u.frozen? ⟨B11_16, o, none⟩ = false := hO.free 18 rfl
    have c9_19_0 : u.cell? ⟨B11_15, 0, none⟩ = some (.iface 40 (.pointer (some ⟨B11_16, 0, none⟩))) := hO.cell 19 rfl 0 rfl
    have c9_19_1 : u.cell? ⟨B11_15, 1, none⟩ = some (.int .i32 loc) := hO.cell 19 rfl 1 rfl
    have lt9_19 : B11_15 < u.heap.size := hO.lt 19 rfl
    have y9_19 : ∀ o, u.frozen? ⟨B11_15, o, none⟩ = false := hO.free 19 rfl
    have c9_20_0 : u.cell? ⟨B11_13, 0, none⟩ = some (.iface 38 (.pointer (some ⟨B11_12, 0, none⟩))) := hO.cell 20 rfl 0 rfl
    have c9_20_1 : u.cell? ⟨B11_13, 1, none⟩ = some (.int .i32 ll) := hO.cell 20 rfl 1 rfl
    have lt9_20 : B11_13 < u.heap.size := hO.lt 20 rfl
    have y9_20 : ∀ o, u.frozen? ⟨B11_13, o, none⟩ = false := hO.free 20 rfl
    have c9_21_0 : u.cell? ⟨B11_11, 0, none⟩ = some (.iface 38 (.pointer (some ⟨B11_12, 0, none⟩))) := hO.cell 21 rfl 0 rfl
    have c9_21_1 : u.cell? ⟨B11_11, 1, none⟩ = some (.int .i32 ll) := hO.cell 21 rfl 1 rfl
    have lt9_21 : B11_11 < u.heap.size := hO.lt 21 rfl
    have y9_21 : ∀ o, u.frozen? ⟨B11_11, o, none⟩ = false := hO.free 21 rfl
    have c9_22_0 : u.cell? ⟨B11_10, 0, none⟩ = some (.iface 40 (.pointer (some ⟨B11_7, 0, none⟩))) := hO.cell 22 rfl 0 rfl
    have c9_22_1 : u.cell? ⟨B11_10, 1, none⟩ = some (.int .i32 kl) := hO.cell 22 rfl 1 rfl
    have lt9_22 : B11_10 < u.heap.size := hO.lt 22 rfl
    have y9_22 : ∀ o, u.frozen? ⟨B11_10, o, none⟩ = false := hO.free 22 rfl
    have c9_23_0 : u.cell? ⟨B11_9, 0, none⟩ = some (.iface 52 (.pointer (some ⟨B11_4, 0, none⟩))) := hO.cell 23 rfl 0 rfl
    have c9_23_1 : u.cell? ⟨B11_9, 1, none⟩ = some (.int .i32 tl) := hO.cell 23 rfl 1 rfl
    have lt9_23 : B11_9 < u.heap.size := hO.lt 23 rfl
    have y9_23 : ∀ o, u.frozen? ⟨B11_9, o, none⟩ = false := hO.free 23 rfl
    have c9_24_0 : u.cell? ⟨B11_6, 0, none⟩ = some (.iface 40 (.pointer (some ⟨B11_7, 0, none⟩))) := hO.cell 24 rfl 0 rfl
    have c9_24_1 : u.cell? ⟨B11_6, 1, none⟩ = some (.int .i32 kl) := hO.cell 24 rfl 1 rfl
    have lt9_24 : B11_6 < u.heap.size := hO.lt 24 rfl
    have y9_24 : ∀ o, u.frozen? ⟨B11_6, o, none⟩ = false := hO.free 24 rfl
    have c9_25_0 : u.cell? ⟨B11_3, 0, none⟩ = some (.iface 52 (.pointer (some ⟨B11_4, 0, none⟩))) := hO.cell 25 rfl 0 rfl
    have c9_25_1 : u.cell? ⟨B11_3, 1, none⟩ = some (.int .i32 tl) := hO.cell 25 rfl 1 rfl
    have lt9_25 : B11_3 < u.heap.size := hO.lt 25 rfl
    have y9_25 : ∀ o, u.frozen? ⟨B11_3, o, none⟩ = false := hO.free 25 rfl
    have c9_26_0 : u.cell? ⟨B11_2, 0, none⟩ = some (.int .u32 src) := hO.cell 26 rfl 0 rfl
    have c9_26_1 : u.cell? ⟨B11_2, 1, none⟩ = some (.int .u32 (m : Int)) := hO.cell 26 rfl 1 rfl
    have lt9_26 : B11_2 < u.heap.size := hO.lt 26 rfl
    have y9_26 : ∀ o, u.frozen? ⟨B11_2, o, none⟩ = false := hO.free 26 rfl
    have c9_27_0 : u.cell? ⟨B11, 0, none⟩ = some (.int .u32 src) := hO.cell 27 rfl 0 rfl
    have c9_27_1 : u.cell? ⟨B11, 1, none⟩ = some (.int .u32 (m : Int)) := hO.cell 27 rfl 1 rfl
    have lt9_27 : B11 < u.heap.size := hO.lt 27 rfl
    have y9_27 : ∀ o, u.frozen? ⟨B11, o, none⟩ = false := hO.free 27 rfl
    have HO := Lib.hid hO
    clear hO
    go_wp2_with (first | (go_at_call 6; go_in) | (go_at_call 7; go_in) | (go_at_call 5; go_in) | (go_at_call 8; go_in) | (go_at_call 9; go_in) | (go_at_call 13; go_in) | (go_at_call 15; go_in) | (go_at_call 11; go_in))
    have hO := HO.out
    clear HO pl9_4 pl9_9 pl9_10 pl9_11 pl9_12 pl9_13 pl9_14 ne9_4_9 ne9_4_10 ne9_9_4 ne9_9_10 ne9_10_4 ne9_10_9 ne9_11_13 ne9_12_14 ne9_13_11 ne9_14_12 c9_0_0 c9_0_1 lt9_0 y9_0 c9_1_0 c9_1_1 lt9_1 y9_1 c9_4_0 c9_4_1 c9_4_2 c9_4_3 c9_4_4 c9_4_5 c9_4_6 c9_4_7 c9_4_8 lt9_4 y9_4 c9_5_0 c9_5_1 c9_5_2 c9_5_3 c9_5_4 lt9_5 y9_5 c9_6_0 lt9_6 y9_6 c9_7_0 c9_7_1 c9_7_2 c9_7_3 c9_7_4 c9_7_5 lt9_7 y9_7 c9_8_0 c9_8_1 c9_8_2 c9_8_3 c9_8_4 c9_8_5 lt9_8 y9_8 c9_9_0 c9_9_1 c9_9_2 c9_9_3 c9_9_4 c9_9_5 c9_9_6 c9_9_7 c9_9_8 lt9_9 y9_9 c9_10_0 c9_10_1 c9_10_2 c9_10_3 c9_10_4 c9_10_5 c9_10_6 c9_10_7 c9_10_8 lt9_10 y9_10 c9_11_0 c9_11_1 c9_11_2 c9_11_3 c9_11_4 lt9_11 y9_11 c9_12_0 lt9_12 y9_12 c9_13_0 c9_13_1 c9_13_2 c9_13_3 c9_13_4 lt9_13 y9_13 c9_14_0 lt9_14 y9_14 c9_15_0 c9_15_1 lt9_15 y9_15 c9_16_0 c9_16_1 lt9_16 y9_16 c9_17_0 c9_17_1 lt9_17 y9_17 c9_18_0 lt9_18 y9_18 c9_19_0 c9_19_1 lt9_19 y9_19 c9_20_0 c9_20_1 lt9_20 y9_20 c9_21_0 c9_21_1 lt9_21 y9_21 c9_22_0 c9_22_1 lt9_22 y9_22 c9_23_0 c9_23_1 lt9_23 y9_23 c9_24_0 c9_24_1 lt9_24 y9_24 c9_25_0 c9_25_1 lt9_25 y9_25 c9_26_0 c9_26_1 lt9_26 y9_26 c9_27_0 c9_27_1 lt9_27 y9_27
    generalize hW : World.alloc _ _ = W25
    have hN : Own w0 W25 [row (u.heap.size) 34 #[.iface 42 (.pointer (some ⟨nd15, 0, none⟩)), .int .i32 ll], row (B22_1) 34 #[.iface 42 (.pointer (some ⟨nd14, 0, none⟩)), .int .i32 loc], row (B22) 34 #[.iface 42 (.pointer (some ⟨nd14, 0, none⟩)), .int .i32 loc], row (nd2) 178 nd5, row (nd3) 196 (bumped (bumped nd6 m (0 : Nat)) m (1 : Nat)), row (B11_12) 56 #[.iface 52 (.pointer (some ⟨B11_4, 0, none⟩)), .int .i32 tl, .iface 40 (.pointer (some ⟨B11_7, 0, none⟩)), .int .i32 kl, .int .i32 0, .int .u8 0, .bool false, .bool false, .bool false], row (B11_4) 180 #[.int .u32 src, .int .u32 (m : Int), .bool false, .bool false, .bool false], row (B11_7) 182 #[.float .f64 kv], row (nd14) 45 #[.iface 38 (.pointer (some ⟨nd16, 0, none⟩)), .int .i32 ll, .iface 42 (.pointer (some ⟨nd15, 0, none⟩)), .int .i32 ll, .int .u8 30, .bool false], row (nd15) 45 #[.iface 38 (.pointer (some ⟨nd17, 0, none⟩)), .int .i32 ll, .iface 40 (.pointer (some ⟨B11_16, 0, none⟩)), .int .i32 loc, .int .u8 37, .bool false], row (nd16) 56 #[.iface 52 (.pointer (some ⟨nd18, 0, none⟩)), .int .i32 ll, .iface 40 (.pointer (some ⟨nd19, 0, none⟩)), .int .i32 ll, .int .i32 0, .int .u8 0, .bool false, .bool false, .bool false], row (nd17) 56 #[.iface 52 (.pointer (some ⟨nd20, 0, none⟩)), .int .i32 ll, .iface 40 (.pointer (some ⟨nd21, 0, none⟩)), .int .i32 ll, .int .i32 0, .int .u8 0, .bool false, .bool false, .bool false], row (nd18) 180 #[.int .u32 src, .int .u32 (m : Int), .bool false, .bool false, .bool false], row (nd19) 182 #[.float .f64 kv], row (nd20) 180 #[.int .u32 src, .int .u32 (m : Int), .bool false, .bool false, .bool false], row (nd21) 182 #[.float .f64 kv], row (B11_19) 34 #[.iface 40 (.pointer (some ⟨B11_16, 0, none⟩)), .int .i32 loc], row (B11_18) 34 #[.iface 38 (.pointer (some ⟨B11_12, 0, none⟩)), .int .i32 ll], row (B11_17) 34 #[.iface 40 (.pointer (some ⟨B11_16, 0, none⟩)), .int .i32 loc], row (B11_16) 182 #[.float .f64 v], row (B11_15) 34 #[.iface 40 (.pointer (some ⟨B11_16, 0, none⟩)), .int .i32 loc], row (B11_13) 34 #[.iface 38 (.pointer (some ⟨B11_12, 0, none⟩)), .int .i32 ll], row (B11_11) 34 #[.iface 38 (.pointer (some ⟨B11_12, 0, none⟩)), .int .i32 ll], row (B11_10) 34 #[.iface 40 (.pointer (some ⟨B11_7, 0, none⟩)), .int .i32 kl], row (B11_9) 34 #[.iface 52 (.pointer (some ⟨B11_4, 0, none⟩)), .int .i32 tl], row (B11_6) 34 #[.iface 40 (.pointer (some ⟨B11_7, 0, none⟩)), .int .i32 kl], row (B11_3) 34 #[.iface 52 (.pointer (some ⟨B11_4, 0, none⟩)), .int .i32 tl], row (B11_2) 28 #[.int .u32 src, .int .u32 (m : Int)], row (B11) 28 #[.int .u32 src, .int .u32 (m : Int)]] X := by
      rw [← hW]
      exact (hO).alloc' _ (u.heap.size) (by simp)
    clear hW hO
    generalize u.heap.size = B24 at hN ⊢
    have hO := hN
    clear hN
    refine wp_region_own (e := rL2E src m tl kl ll loc kv v nd2 nd3 nd5 nd6 B11_19 B11_18 B11_17 B11_16 B11_15 B11_13 B11_12 B11_11 B11_10 B11_9 B11_7 B11_6 B11_4 B11_3 B11_2 B11 nd14 nd15 nd16 nd17 nd18 nd19 nd20 nd21 B22_1 B22 B24) (anc := rL2Anc) (G := (fun L9 α u9 => OwnF w0 u9 (act rL2Cnt 29 L9) (rL2R src m tl kl ll loc kv v nd2 nd3 nd5 nd6 B11_19 B11_18 B11_17 B11_16 B11_15 B11_13 B11_12 B11_11 B11_10 B11_9 B11_7 B11_6 B11_4 B11_3 B11_2 B11 nd14 nd15 nd16 nd17 nd18 nd19 nd20 nd21 B22_1 B22 B24 L9 α) X)) (by kernel_rfl) (by kernel_rfl) (by kernel_rfl) (by kernel_rfl) (rL2_he src m tl kl ll loc kv v nd2 nd3 nd5 nd6 B11_19 B11_18 B11_17 B11_16 B11_15 B11_13 B11_12 B11_11 B11_10 B11_9 B11_7 B11_6 B11_4 B11_3 B11_2 B11 nd14 nd15 nd16 nd17 nd18 nd19 nd20 nd21 B22_1 B22 B24) ?_ (RunsAll.all ?_) ?_
    · have hp : ∀ i, act rL2Cnt 29 (fun _ => false) i → i ∈ [999, 1999, 2999, 3999, 4999, 5999, 6999, 7999, 8999, 9999, 10999, 11999, 12999, 13999, 14999, 15999, 16999, 17999, 18999, 19999, 20999, 21999, 22999, 23999, 24999, 25999, 26999, 27999, 28999] := by
        intro i hi
        have h9 : i % 1000 = 999 := by
          by_cases h : i % 1000 = 999
          · exact h
          · exact absurd (act_lt hi h) (by simp)
        unfold act at hi
        rw [if_pos h9] at hi
        simp only [List.mem_cons, List.not_mem_nil, or_false]
        omega
      refine hO.drew.family (fun i hi => ?_) (fun i j hi hj hij => ?_)
      · have := hp i hi
        simp only [List.mem_cons, List.not_mem_nil, or_false] at this
        rcases this with rfl | rfl | rfl | rfl | rfl | rfl | rfl | rfl | rfl | rfl | rfl | rfl | rfl | rfl | rfl | rfl | rfl | rfl | rfl | rfl | rfl | rfl | rfl | rfl | rfl | rfl | rfl | rfl | rfl <;> rfl
      · have h1 := hp i hi
        have h2 := hp j hj
        simp only [List.mem_cons, List.not_mem_nil, or_false] at h1 h2
        omega
    · refine ⟨?_, ?_, ?_, ?_, ?_, ?_, ?_, ?_, ?_, ?_, trivial⟩
      · intro L9 α a9 u9 K9 hL hcl hA hG hS h0 hK
        replace hL : L9 0 = false := hL
        have q31 : a9.tmps[31]? = some (.pointer (some ⟨nd15, 0, none⟩)) := (h0 31 (by kernel_rfl)).trans rfl
        have s31 := Rega.eval_of q31
        go_simp
        exact hK _ α _ (fun _ _ => rfl) rfl (step_same (rL2_st src m tl kl ll loc kv v nd2 nd3 nd5 nd6 B11_19 B11_18 B11_17 B11_16 B11_15 B11_13 B11_12 B11_11 B11_10 B11_9 B11_7 B11_6 B11_4 B11_3 B11_2 B11 nd14 nd15 nd16 nd17 nd18 nd19 nd20 nd21 B22_1 B22 B24) hL hcl rfl rfl hG)
      · intro L9 α a9 u9 K9 hL hcl hA hG hS h0 hK
        replace hL : L9 1 = false := hL
        have q147 : a9.tmps[147]? = some (.pointer (some ⟨nd15, 0, none⟩)) := hS 0 147 (by decide) rfl (by show 147 < 207; decide)
        have s147 := Rega.eval_of q147
        go_simp
        exact hK _ α _ (fun _ _ => rfl) rfl (step_same (rL2_st src m tl kl ll loc kv v nd2 nd3 nd5 nd6 B11_19 B11_18 B11_17 B11_16 B11_15 B11_13 B11_12 B11_11 B11_10 B11_9 B11_7 B11_6 B11_4 B11_3 B11_2 B11 nd14 nd15 nd16 nd17 nd18 nd19 nd20 nd21 B22_1 B22 B24) hL hcl rfl rfl hG)
      · intro L9 α a9 u9 K9 hL hcl hA hG hS h0 hK
        replace hL : L9 2 = false := hL
        have q148 : a9.tmps[148]? = some (.pointer (some ⟨nd15, 0, none⟩)) := hS 1 148 (by decide) rfl (by show 148 < 207; decide)
        have s148 := Rega.eval_of q148
        go_simp
        exact hK _ α _ (fun _ _ => rfl) rfl (step_same (rL2_st src m tl kl ll loc kv v nd2 nd3 nd5 nd6 B11_19 B11_18 B11_17 B11_16 B11_15 B11_13 B11_12 B11_11 B11_10 B11_9 B11_7 B11_6 B11_4 B11_3 B11_2 B11 nd14 nd15 nd16 nd17 nd18 nd19 nd20 nd21 B22_1 B22 B24) hL hcl rfl rfl hG)
      · intro L9 α a9 u9 K9 hL hcl hA hG hS h0 hK
        replace hL : L9 3 = false := hL
        have q149 : a9.tmps[149]? = some (.pointer (some ⟨nd15, 0, none⟩)) := hS 2 149 (by decide) rfl (by show 149 < 207; decide)
        have s149 := Rega.eval_of q149
        have e0 : rL2R src m tl kl ll loc kv v nd2 nd3 nd5 nd6 B11_19 B11_18 B11_17 B11_16 B11_15 B11_13 B11_12 B11_11 B11_10 B11_9 B11_7 B11_6 B11_4 B11_3 B11_2 B11 nd14 nd15 nd16 nd17 nd18 nd19 nd20 nd21 B22_1 B22 B24 L9 α 9999 = row (nd15) 45 #[.iface 38 (.pointer (some ⟨nd17, 0, none⟩)), .int .i32 ll, .iface 40 (.pointer (some ⟨B11_16, 0, none⟩)), .int .i32 loc, .int .u8 37, .bool false] := rfl
        have hr := hG.rowAt 9999 (act_base 9999 rfl) e0
        have c0 : u9.cell? ⟨nd15, 0, none⟩ = some (.iface 38 (.pointer (some ⟨nd17, 0, none⟩))) := hr.cell rfl
        have c1 : u9.cell? ⟨nd15, 1, none⟩ = some (.int .i32 ll) := hr.cell rfl
        clear hr e0
        go_simp
        exact hK _ α _ (fun _ _ => rfl) rfl (step_same (rL2_st src m tl kl ll loc kv v nd2 nd3 nd5 nd6 B11_19 B11_18 B11_17 B11_16 B11_15 B11_13 B11_12 B11_11 B11_10 B11_9 B11_7 B11_6 B11_4 B11_3 B11_2 B11 nd14 nd15 nd16 nd17 nd18 nd19 nd20 nd21 B22_1 B22 B24) hL hcl rfl rfl hG)
      · intro L9 α a9 u9 K9 hL hcl hA hG hS h0 hK
        replace hL : L9 4 = false := hL
        have q5 : a9.tmps[5]? = some (.int .i32 ll) := (h0 5 (by kernel_rfl)).trans rfl
        have s5 := Rega.eval_of q5
        go_simp
        exact hK _ α _ (fun _ _ => rfl) rfl (step_same (rL2_st src m tl kl ll loc kv v nd2 nd3 nd5 nd6 B11_19 B11_18 B11_17 B11_16 B11_15 B11_13 B11_12 B11_11 B11_10 B11_9 B11_7 B11_6 B11_4 B11_3 B11_2 B11 nd14 nd15 nd16 nd17 nd18 nd19 nd20 nd21 B22_1 B22 B24) hL hcl rfl rfl hG)
      · intro L9 α a9 u9 K9 hL hcl hA hG hS h0 hK
        replace hL : L9 5 = false := hL
        have q21 : a9.tmps[21]? = some (.pointer (some ⟨B11, 0, none⟩)) := (h0 21 (by kernel_rfl)).trans rfl
        have s21 := Rega.eval_of q21
        have e0 : rL2R src m tl kl ll loc kv v nd2 nd3 nd5 nd6 B11_19 B11_18 B11_17 B11_16 B11_15 B11_13 B11_12 B11_11 B11_10 B11_9 B11_7 B11_6 B11_4 B11_3 B11_2 B11 nd14 nd15 nd16 nd17 nd18 nd19 nd20 nd21 B22_1 B22 B24 L9 α 28999 = row (B11) 28 #[.int .u32 src, .int .u32 (m : Int)] := rfl
        have hr := hG.rowAt 28999 (act_base 28999 rfl) e0
        have c0 : u9.cell? ⟨B11, 0, none⟩ = some (.int .u32 src) := hr.cell rfl
        have c1 : u9.cell? ⟨B11, 1, none⟩ = some (.int .u32 (m : Int)) := hr.cell rfl
        clear hr e0
        go_simp
        exact hK _ α _ (fun _ _ => rfl) rfl (step_same (rL2_st src m tl kl ll loc kv v nd2 nd3 nd5 nd6 B11_19 B11_18 B11_17 B11_16 B11_15 B11_13 B11_12 B11_11 B11_10 B11_9 B11_7 B11_6 B11_4 B11_3 B11_2 B11 nd14 nd15 nd16 nd17 nd18 nd19 nd20 nd21 B22_1 B22 B24) hL hcl rfl rfl hG)
      · intro L9 α a9 u9 K9 hL hcl hA hG hS h0 hK
        replace hL : L9 6 = false := hL
        have q7 : a9.tmps[7]? = some (.float .f64 kv) := (h0 7 (by kernel_rfl)).trans rfl
        have s7 := Rega.eval_of q7
        go_simp
        exact hK _ α _ (fun _ _ => rfl) rfl (step_same (rL2_st src m tl kl ll loc kv v nd2 nd3 nd5 nd6 B11_19 B11_18 B11_17 B11_16 B11_15 B11_13 B11_12 B11_11 B11_10 B11_9 B11_7 B11_6 B11_4 B11_3 B11_2 B11 nd14 nd15 nd16 nd17 nd18 nd19 nd20 nd21 B22_1 B22 B24) hL hcl rfl rfl hG)
      · intro L9 α a9 u9 K9 hL hcl hA hG hS h0 hK
        replace hL : L9 7 = false := hL
        have q24 : a9.tmps[24]? = some (.pointer (some ⟨B11_12, 0, none⟩)) := (h0 24 (by kernel_rfl)).trans rfl
        have s24 := Rega.eval_of q24
        go_simp
        exact hK _ α _ (fun _ _ => rfl) rfl (step_same (rL2_st src m tl kl ll loc kv v nd2 nd3 nd5 nd6 B11_19 B11_18 B11_17 B11_16 B11_15 B11_13 B11_12 B11_11 B11_10 B11_9 B11_7 B11_6 B11_4 B11_3 B11_2 B11 nd14 nd15 nd16 nd17 nd18 nd19 nd20 nd21 B22_1 B22 B24) hL hcl rfl rfl hG)
      · intro L9 α a9 u9 K9 hL hcl hA hG hS h0 hK
        replace hL : L9 8 = false := hL
        have q150 : a9.tmps[150]? = some (.agg #[.iface 38 (.pointer (some ⟨nd17, 0, none⟩)), .int .i32 ll]) := hS 3 150 (by decide) rfl (by show 150 < 207; decide)
        have s150 := Rega.eval_of q150
        have q151 : a9.tmps[151]? = some (.int .i32 ll) := hS 4 151 (by decide) rfl (by show 151 < 207; decide)
        have s151 := Rega.eval_of q151
        have q152 : a9.tmps[152]? = some (.agg #[.int .u32 src, .int .u32 (m : Int)]) := hS 5 152 (by decide) rfl (by show 152 < 207; decide)
        have s152 := Rega.eval_of q152
        have q153 : a9.tmps[153]? = some (.float .f64 kv) := hS 6 153 (by decide) rfl (by show 153 < 207; decide)
        have s153 := Rega.eval_of q153
        have q154 : a9.tmps[154]? = some (.pointer (some ⟨B11_12, 0, none⟩)) := hS 7 154 (by decide) rfl (by show 154 < 207; decide)
        have s154 := Rega.eval_of q154
        go_simp
        have e0 : rL2R src m tl kl ll loc kv v nd2 nd3 nd5 nd6 B11_19 B11_18 B11_17 B11_16 B11_15 B11_13 B11_12 B11_11 B11_10 B11_9 B11_7 B11_6 B11_4 B11_3 B11_2 B11 nd14 nd15 nd16 nd17 nd18 nd19 nd20 nd21 B22_1 B22 B24 L9 α 11999 = row (nd17) 56 #[.iface 52 (.pointer (some ⟨nd20, 0, none⟩)), .int .i32 ll, .iface 40 (.pointer (some ⟨nd21, 0, none⟩)), .int .i32 ll, .int .i32 0, .int .u8 0, .bool false, .bool false, .bool false] := rfl
        have e1 : rL2R src m tl kl ll loc kv v nd2 nd3 nd5 nd6 B11_19 B11_18 B11_17 B11_16 B11_15 B11_13 B11_12 B11_11 B11_10 B11_9 B11_7 B11_6 B11_4 B11_3 B11_2 B11 nd14 nd15 nd16 nd17 nd18 nd19 nd20 nd21 B22_1 B22 B24 L9 α 5999 = row (B11_12) 56 #[.iface 52 (.pointer (some ⟨B11_4, 0, none⟩)), .int .i32 tl, .iface 40 (.pointer (some ⟨B11_7, 0, none⟩)), .int .i32 kl, .int .i32 0, .int .u8 0, .bool false, .bool false, .bool false] := rfl
        have e2 : rL2R src m tl kl ll loc kv v nd2 nd3 nd5 nd6 B11_19 B11_18 B11_17 B11_16 B11_15 B11_13 B11_12 B11_11 B11_10 B11_9 B11_7 B11_6 B11_4 B11_3 B11_2 B11 nd14 nd15 nd16 nd17 nd18 nd19 nd20 nd21 B22_1 B22 B24 L9 α 14999 = row (nd20) 180 #[.int .u32 src, .int .u32 (m : Int), .bool false, .bool false, .bool false] := rfl
        have e3 : rL2R src m tl kl ll loc kv v nd2 nd3 nd5 nd6 B11_19 B11_18 B11_17 B11_16 B11_15 B11_13 B11_12 B11_11 B11_10 B11_9 B11_7 B11_6 B11_4 B11_3 B11_2 B11 nd14 nd15 nd16 nd17 nd18 nd19 nd20 nd21 B22_1 B22 B24 L9 α 6999 = row (B11_4) 180 #[.int .u32 src, .int .u32 (m : Int), .bool false, .bool false, .bool false] := rfl
        have e4 : rL2R src m tl kl ll loc kv v nd2 nd3 nd5 nd6 B11_19 B11_18 B11_17 B11_16 B11_15 B11_13 B11_12 B11_11 B11_10 B11_9 B11_7 B11_6 B11_4 B11_3 B11_2 B11 nd14 nd15 nd16 nd17 nd18 nd19 nd20 nd21 B22_1 B22 B24 L9 α 15999 = row (nd21) 182 #[.float .f64 kv] := rfl
        have e5 : rL2R src m tl kl ll loc kv v nd2 nd3 nd5 nd6 B11_19 B11_18 B11_17 B11_16 B11_15 B11_13 B11_12 B11_11 B11_10 B11_9 B11_7 B11_6 B11_4 B11_3 B11_2 B11 nd14 nd15 nd16 nd17 nd18 nd19 nd20 nd21 B22_1 B22 B24 L9 α 7999 = row (B11_7) 182 #[.float .f64 kv] := rfl
        have hM : ∀ i, i ∈ [11999, 5999, 14999, 6999, 15999, 7999] → act rL2Cnt 29 L9 i := by
          intro i hi
          simp only [List.mem_cons, List.not_mem_nil, or_false] at hi
          rcases hi with rfl | rfl | rfl | rfl | rfl | rfl
          · exact act_base 11999 rfl
          · exact act_base 5999 rfl
          · exact act_base 14999 rfl
          · exact act_base 6999 rfl
          · exact act_base 15999 rfl
          · exact act_base 7999 rfl
        have hP : Own w0 u9 [row (nd17) 56 #[.iface 52 (.pointer (some ⟨nd20, 0, none⟩)), .int .i32 ll, .iface 40 (.pointer (some ⟨nd21, 0, none⟩)), .int .i32 ll, .int .i32 0, .int .u8 0, .bool false, .bool false, .bool false], row (B11_12) 56 #[.iface 52 (.pointer (some ⟨B11_4, 0, none⟩)), .int .i32 tl, .iface 40 (.pointer (some ⟨B11_7, 0, none⟩)), .int .i32 kl, .int .i32 0, .int .u8 0, .bool false, .bool false, .bool false], row (nd20) 180 #[.int .u32 src, .int .u32 (m : Int), .bool false, .bool false, .bool false], row (B11_4) 180 #[.int .u32 src, .int .u32 (m : Int), .bool false, .bool false, .bool false], row (nd21) 182 #[.float .f64 kv], row (B11_7) 182 #[.float .f64 kv]] _ := (hG.pick [11999, 5999, 14999, 6999, 15999, 7999] (by decide) hM).conv (by
          show [rL2R src m tl kl ll loc kv v nd2 nd3 nd5 nd6 B11_19 B11_18 B11_17 B11_16 B11_15 B11_13 B11_12 B11_11 B11_10 B11_9 B11_7 B11_6 B11_4 B11_3 B11_2 B11 nd14 nd15 nd16 nd17 nd18 nd19 nd20 nd21 B22_1 B22 B24 L9 α 11999, rL2R src m tl kl ll loc kv v nd2 nd3 nd5 nd6 B11_19 B11_18 B11_17 B11_16 B11_15 B11_13 B11_12 B11_11 B11_10 B11_9 B11_7 B11_6 B11_4 B11_3 B11_2 B11 nd14 nd15 nd16 nd17 nd18 nd19 nd20 nd21 B22_1 B22 B24 L9 α 5999, rL2R src m tl kl ll loc kv v nd2 nd3 nd5 nd6 B11_19 B11_18 B11_17 B11_16 B11_15 B11_13 B11_12 B11_11 B11_10 B11_9 B11_7 B11_6 B11_4 B11_3 B11_2 B11 nd14 nd15 nd16 nd17 nd18 nd19 nd20 nd21 B22_1 B22 B24 L9 α 14999, rL2R src m tl kl ll loc kv v nd2 nd3 nd5 nd6 B11_19 B11_18 B11_17 B11_16 B11_15 B11_13 B11_12 B11_11 B11_10 B11_9 B11_7 B11_6 B11_4 B11_3 B11_2 B11 nd14 nd15 nd16 nd17 nd18 nd19 nd20 nd21 B22_1 B22 B24 L9 α 6999, rL2R src m tl kl ll loc kv v nd2 nd3 nd5 nd6 B11_19 B11_18 B11_17 B11_16 B11_15 B11_13 B11_12 B11_11 B11_10 B11_9 B11_7 B11_6 B11_4 B11_3 B11_2 B11 nd14 nd15 nd16 nd17 nd18 nd19 nd20 nd21 B22_1 B22 B24 L9 α 15999, rL2R src m tl kl ll loc kv v nd2 nd3 nd5 nd6 B11_19 B11_18 B11_17 B11_16 B11_15 B11_13 B11_12 B11_11 B11_10 B11_9 B11_7 B11_6 B11_4 B11_3 B11_2 B11 nd14 nd15 nd16 nd17 nd18 nd19 nd20 nd21 B22_1 B22 B24 L9 α 7999] = _
          rw [e0, e1, e2, e3, e4, e5])
        clear e0 e1 e2 e3 e4 e5 hM
        refine Calls.mono (ixCopyO nd17 ll src (m : Int) kv B11_12 nd20 nd21 B11_4 B11_7 tl kl _ _ _ hP ) ?_
        rintro e9 u1 ⟨rfl, hQ⟩
        obtain ⟨α', hα'⟩ : ∃ α' : Rega.Atoms, α' = α := ⟨_, rfl⟩
        have f0 : rL2R src m tl kl ll loc kv v nd2 nd3 nd5 nd6 B11_19 B11_18 B11_17 B11_16 B11_15 B11_13 B11_12 B11_11 B11_10 B11_9 B11_7 B11_6 B11_4 B11_3 B11_2 B11 nd14 nd15 nd16 nd17 nd18 nd19 nd20 nd21 B22_1 B22 B24 (Rega.ran L9 8) α' 11999 = row (nd17) 56 #[.iface 52 (.pointer (some ⟨nd20, 0, none⟩)), .int .i32 ll, .iface 40 (.pointer (some ⟨nd21, 0, none⟩)), .int .i32 ll, .int .i32 0, .int .u8 0, .bool false, .bool false, .bool false] := rfl
        have f1 : rL2R src m tl kl ll loc kv v nd2 nd3 nd5 nd6 B11_19 B11_18 B11_17 B11_16 B11_15 B11_13 B11_12 B11_11 B11_10 B11_9 B11_7 B11_6 B11_4 B11_3 B11_2 B11 nd14 nd15 nd16 nd17 nd18 nd19 nd20 nd21 B22_1 B22 B24 (Rega.ran L9 8) α' 5999 = row (B11_12) 56 #[.iface 52 (.pointer (some ⟨B11_4, 0, none⟩)), .int .i32 tl, .iface 40 (.pointer (some ⟨B11_7, 0, none⟩)), .int .i32 kl, .int .i32 0, .int .u8 0, .bool false, .bool false, .bool false] := rfl
        have f2 : rL2R src m tl kl ll loc kv v nd2 nd3 nd5 nd6 B11_19 B11_18 B11_17 B11_16 B11_15 B11_13 B11_12 B11_11 B11_10 B11_9 B11_7 B11_6 B11_4 B11_3 B11_2 B11 nd14 nd15 nd16 nd17 nd18 nd19 nd20 nd21 B22_1 B22 B24 (Rega.ran L9 8) α' 14999 = row (nd20) 180 #[.int .u32 src, .int .u32 (m : Int), .bool false, .bool false, .bool false] := rfl
        have f3 : rL2R src m tl kl ll loc kv v nd2 nd3 nd5 nd6 B11_19 B11_18 B11_17 B11_16 B11_15 B11_13 B11_12 B11_11 B11_10 B11_9 B11_7 B11_6 B11_4 B11_3 B11_2 B11 nd14 nd15 nd16 nd17 nd18 nd19 nd20 nd21 B22_1 B22 B24 (Rega.ran L9 8) α' 6999 = row (B11_4) 180 #[.int .u32 src, .int .u32 (m : Int), .bool false, .bool false, .bool false] := rfl
        have f4 : rL2R src m tl kl ll loc kv v nd2 nd3 nd5 nd6 B11_19 B11_18 B11_17 B11_16 B11_15 B11_13 B11_12 B11_11 B11_10 B11_9 B11_7 B11_6 B11_4 B11_3 B11_2 B11 nd14 nd15 nd16 nd17 nd18 nd19 nd20 nd21 B22_1 B22 B24 (Rega.ran L9 8) α' 15999 = row (nd21) 182 #[.float .f64 kv] := rfl
        have f5 : rL2R src m tl kl ll loc kv v nd2 nd3 nd5 nd6 B11_19 B11_18 B11_17 B11_16 B11_15 B11_13 B11_12 B11_11 B11_10 B11_9 B11_7 B11_6 B11_4 B11_3 B11_2 B11 nd14 nd15 nd16 nd17 nd18 nd19 nd20 nd21 B22_1 B22 B24 (Rega.ran L9 8) α' 7999 = row (B11_7) 182 #[.float .f64 kv] := rfl
        have hα : ∀ j, j % 1000 ≠ 8 → α' j = α j := fun j hj => by rw [hα']
        skip
        refine hK _ α' _ hα ?_ (step_call (rL2_st src m tl kl ll loc kv v nd2 nd3 nd5 nd6 B11_19 B11_18 B11_17 B11_16 B11_15 B11_13 B11_12 B11_11 B11_10 B11_9 B11_7 B11_6 B11_4 B11_3 B11_2 B11 nd14 nd15 nd16 nd17 nd18 nd19 nd20 nd21 B22_1 B22 B24) hL hcl hα [11999, 5999, 14999, 6999, 15999, 7999] [11999, 5999, 14999, 6999, 15999, 7999] (by decide) (by decide) (by decide) (M := _) ?_ hG hQ)
        · rfl
        · show [rL2R src m tl kl ll loc kv v nd2 nd3 nd5 nd6 B11_19 B11_18 B11_17 B11_16 B11_15 B11_13 B11_12 B11_11 B11_10 B11_9 B11_7 B11_6 B11_4 B11_3 B11_2 B11 nd14 nd15 nd16 nd17 nd18 nd19 nd20 nd21 B22_1 B22 B24 (Rega.ran L9 8) α' 11999, rL2R src m tl kl ll loc kv v nd2 nd3 nd5 nd6 B11_19 B11_18 B11_17 B11_16 B11_15 B11_13 B11_12 B11_11 B11_10 B11_9 B11_7 B11_6 B11_4 B11_3 B11_2 B11 nd14 nd15 nd16 nd17 nd18 nd19 nd20 nd21 B22_1 B22 B24 (Rega.ran L9 8) α' 5999, rL2R src m tl kl ll loc kv v nd2 nd3 nd5 nd6 B11_19 B11_18 B11_17 B11_16 B11_15 B11_13 B11_12 B11_11 B11_10 B11_9 B11_7 B11_6 B11_4 B11_3 B11_2 B11 nd14 nd15 nd16 nd17 nd18 nd19 nd20 nd21 B22_1 B22 B24 (Rega.ran L9 8) α' 14999, rL2R src m tl kl ll loc kv v nd2 nd3 nd5 nd6 B11_19 B11_18 B11_17 B11_16 B11_15 B11_13 B11_12 B11_11 B11_10 B11_9 B11_7 B11_6 B11_4 B11_3 B11_2 B11 nd14 nd15 nd16 nd17 nd18 nd19 nd20 nd21 B22_1 B22 B24 (Rega.ran L9 8) α' 6999, rL2R src m tl kl ll loc kv v nd2 nd3 nd5 nd6 B11_19 B11_18 B11_17 B11_16 B11_15 B11_13 B11_12 B11_11 B11_10 B11_9 B11_7 B11_6 B11_4 B11_3 B11_2 B11 nd14 nd15 nd16 nd17 nd18 nd19 nd20 nd21 B22_1 B22 B24 (Rega.ran L9 8) α' 15999, rL2R src m tl kl ll loc kv v nd2 nd3 nd5 nd6 B11_19 B11_18 B11_17 B11_16 B11_15 B11_13 B11_12 B11_11 B11_10 B11_9 B11_7 B11_6 B11_4 B11_3 B11_2 B11 nd14 nd15 nd16 nd17 nd18 nd19 nd20 nd21 B22_1 B22 B24 (Rega.ran L9 8) α' 7999] = _
          rw [f0, f1, f2, f3, f4, f5]
      · intro L9 α a9 u9 K9 hL hcl hA hG hS h0 hK
        replace hL : L9 9 = false := hL
        have q155 : a9.tmps[155]? = some (.pointer (some ⟨nd17, 0, none⟩)) := hS 8 155 (by decide) rfl (by show 155 < 207; decide)
        have s155 := Rega.eval_of q155
        go_simp
        exact hK _ α _ (fun _ _ => rfl) rfl (step_same (rL2_st src m tl kl ll loc kv v nd2 nd3 nd5 nd6 B11_19 B11_18 B11_17 B11_16 B11_15 B11_13 B11_12 B11_11 B11_10 B11_9 B11_7 B11_6 B11_4 B11_3 B11_2 B11 nd14 nd15 nd16 nd17 nd18 nd19 nd20 nd21 B22_1 B22 B24) hL hcl rfl rfl hG)
    · intro α u hG
      have e0 : rL2R src m tl kl ll loc kv v nd2 nd3 nd5 nd6 B11_19 B11_18 B11_17 B11_16 B11_15 B11_13 B11_12 B11_11 B11_10 B11_9 B11_7 B11_6 B11_4 B11_3 B11_2 B11 nd14 nd15 nd16 nd17 nd18 nd19 nd20 nd21 B22_1 B22 B24 (fun k => decide (k < 10)) α 999 = row (B24) 34 #[.iface 42 (.pointer (some ⟨nd15, 0, none⟩)), .int .i32 ll] := rfl
      have e1 : rL2R src m tl kl ll loc kv v nd2 nd3 nd5 nd6 B11_19 B11_18 B11_17 B11_16 B11_15 B11_13 B11_12 B11_11 B11_10 B11_9 B11_7 B11_6 B11_4 B11_3 B11_2 B11 nd14 nd15 nd16 nd17 nd18 nd19 nd20 nd21 B22_1 B22 B24 (fun k => decide (k < 10)) α 1999 = row (B22_1) 34 #[.iface 42 (.pointer (some ⟨nd14, 0, none⟩)), .int .i32 loc] := rfl
      have e2 : rL2R src m tl kl ll loc kv v nd2 nd3 nd5 nd6 B11_19 B11_18 B11_17 B11_16 B11_15 B11_13 B11_12 B11_11 B11_10 B11_9 B11_7 B11_6 B11_4 B11_3 B11_2 B11 nd14 nd15 nd16 nd17 nd18 nd19 nd20 nd21 B22_1 B22 B24 (fun k => decide (k < 10)) α 2999 = row (B22) 34 #[.iface 42 (.pointer (some ⟨nd14, 0, none⟩)), .int .i32 loc] := rfl
      have e3 : rL2R src m tl kl ll loc kv v nd2 nd3 nd5 nd6 B11_19 B11_18 B11_17 B11_16 B11_15 B11_13 B11_12 B11_11 B11_10 B11_9 B11_7 B11_6 B11_4 B11_3 B11_2 B11 nd14 nd15 nd16 nd17 nd18 nd19 nd20 nd21 B22_1 B22 B24 (fun k => decide (k < 10)) α 3999 = row (nd2) 178 nd5 := rfl
      have e4 : rL2R src m tl kl ll loc kv v nd2 nd3 nd5 nd6 B11_19 B11_18 B11_17 B11_16 B11_15 B11_13 B11_12 B11_11 B11_10 B11_9 B11_7 B11_6 B11_4 B11_3 B11_2 B11 nd14 nd15 nd16 nd17 nd18 nd19 nd20 nd21 B22_1 B22 B24 (fun k => decide (k < 10)) α 4999 = row (nd3) 196 (bumped (bumped nd6 m (0 : Nat)) m (1 : Nat)) := rfl
      have e5 : rL2R src m tl kl ll loc kv v nd2 nd3 nd5 nd6 B11_19 B11_18 B11_17 B11_16 B11_15 B11_13 B11_12 B11_11 B11_10 B11_9 B11_7 B11_6 B11_4 B11_3 B11_2 B11 nd14 nd15 nd16 nd17 nd18 nd19 nd20 nd21 B22_1 B22 B24 (fun k => decide (k < 10)) α 5999 = row (B11_12) 56 #[.iface 52 (.pointer (some ⟨B11_4, 0, none⟩)), .int .i32 tl, .iface 40 (.pointer (some ⟨B11_7, 0, none⟩)), .int .i32 kl, .int .i32 0, .int .u8 0, .bool false, .bool false, .bool false] := rfl
      have e6 : rL2R src m tl kl ll loc kv v nd2 nd3 nd5 nd6 B11_19 B11_18 B11_17 B11_16 B11_15 B11_13 B11_12 B11_11 B11_10 B11_9 B11_7 B11_6 B11_4 B11_3 B11_2 B11 nd14 nd15 nd16 nd17 nd18 nd19 nd20 nd21 B22_1 B22 B24 (fun k => decide (k < 10)) α 6999 = row (B11_4) 180 #[.int .u32 src, .int .u32 (m : Int), .bool false, .bool false, .bool false] := rfl
      have e7 : rL2R src m tl kl ll loc kv v nd2 nd3 nd5 nd6 B11_19 B11_18 B11_17 B11_16 B11_15 B11_13 B11_12 B11_11 B11_10 B11_9 B11_7 B11_6 B11_4 B11_3 B11_2 B11 nd14 nd15 nd16 nd17 nd18 nd19 nd20 nd21 B22_1 B22 B24 (fun k => decide (k < 10)) α 7999 = row (B11_7) 182 #[.float .f64 kv] := rfl
      have e8 : rL2R src m tl kl ll loc kv v nd2 nd3 nd5 nd6 B11_19 B11_18 B11_17 B11_16 B11_15 B11_13 B11_12 B11_11 B11_10 B11_9 B11_7 B11_6 B11_4 B11_3 B11_2 B11 nd14 nd15 nd16 nd17 nd18 nd19 nd20 nd21 B22_1 B22 B24 (fun k => decide (k < 10)) α 8999 = row (nd14) 45 #[.iface 38 (.pointer (some ⟨nd16, 0, none⟩)), .int .i32 ll, .iface 42 (.pointer (some ⟨nd15, 0, none⟩)), .int .i32 ll, .int .u8 30, .bool false] := rfl
      have e9 : rL2R src m tl kl ll loc kv v nd2 nd3 nd5 nd6 B11_19 B11_18 B11_17 B11_16 B11_15 B11_13 B11_12 B11_11 B11_10 B11_9 B11_7 B11_6 B11_4 B11_3 B11_2 B11 nd14 nd15 nd16 nd17 nd18 nd19 nd20 nd21 B22_1 B22 B24 (fun k => decide (k < 10)) α 9999 = row (nd15) 45 #[.iface 38 (.pointer (some ⟨nd17, 0, none⟩)), .int .i32 ll, .iface 40 (.pointer (some ⟨B11_16, 0, none⟩)), .int .i32 loc, .int .u8 37, .bool false] := rfl
      have e10 : rL2R src m tl kl ll loc kv v nd2 nd3 nd5 nd6 B11_19 B11_18 B11_17 B11_16 B11_15 B11_13 B11_12 B11_11 B11_10 B11_9 B11_7 B11_6 B11_4 B11_3 B11_2 B11 nd14 nd15 nd16 nd17 nd18 nd19 nd20 nd21 B22_1 B22 B24 (fun k => decide (k < 10)) α 10999 = row (nd16) 56 #[.iface 52 (.pointer (some ⟨nd18, 0, none⟩)), .int .i32 ll, .iface 40 (.pointer (some ⟨nd19, 0, none⟩)), .int .i32 ll, .int .i32 0, .int .u8 0, .bool false, .bool false, .bool false] := rfl
      have e11 : rL2R src m tl kl ll loc kv v nd2 nd3 nd5 nd6 B11_19 B11_18 B11_17 B11_16 B11_15 B11_13 B11_12 B11_11 B11_10 B11_9 B11_7 B11_6 B11_4 B11_3 B11_2 B11 nd14 nd15 nd16 nd17 nd18 nd19 nd20 nd21 B22_1 B22 B24 (fun k => decide (k < 10)) α 11999 = row (nd17) 56 #[.iface 52 (.pointer (some ⟨nd20, 0, none⟩)), .int .i32 ll, .iface 40 (.pointer (some ⟨nd21, 0, none⟩)), .int .i32 ll, .int .i32 0, .int .u8 0, .bool false, .bool false, .bool false] := rfl
      have e12 : rL2R src m tl kl ll loc kv v nd2 nd3 nd5 nd6 B11_19 B11_18 B11_17 B11_16 B11_15 B11_13 B11_12 B11_11 B11_10 B11_9 B11_7 B11_6 B11_4 B11_3 B11_2 B11 nd14 nd15 nd16 nd17 nd18 nd19 nd20 nd21 B22_1 B22 B24 (fun k => decide (k < 10)) α 12999 = row (nd18) 180 #[.int .u32 src, .int .u32 (m : Int), .bool false, .bool false, .bool false] := rfl
      have e13 : rL2R src m tl kl ll loc kv v nd2 nd3 nd5 nd6 B11_19 B11_18 B11_17 B11_16 B11_15 B11_13 B11_12 B11_11 B11_10 B11_9 B11_7 B11_6 B11_4 B11_3 B11_2 B11 nd14 nd15 nd16 nd17 nd18 nd19 nd20 nd21 B22_1 B22 B24 (fun k => decide (k < 10)) α 13999 = row (nd19) 182 #[.float .f64 kv] := rfl
      have e14 : rL2R src m tl kl ll loc kv v nd2 nd3 nd5 nd6 B11_19 B11_18 B11_17 B11_16 B11_15 B11_13 B11_12 B11_11 B11_10 B11_9 B11_7 B11_6 B11_4 B11_3 B11_2 B11 nd14 nd15 nd16 nd17 nd18 nd19 nd20 nd21 B22_1 B22 B24 (fun k => decide (k < 10)) α 14999 = row (nd20) 180 #[.int .u32 src, .int .u32 (m : Int), .bool false, .bool false, .bool false] := rfl
      have e15 : rL2R src m tl kl ll loc kv v nd2 nd3 nd5 nd6 B11_19 B11_18 B11_17 B11_16 B11_15 B11_13 B11_12 B11_11 B11_10 B11_9 B11_7 B11_6 B11_4 B11_3 B11_2 B11 nd14 nd15 nd16 nd17 nd18 nd19 nd20 nd21 B22_1 B22 B24 (fun k => decide (k < 10)) α 15999 = row (nd21) 182 #[.float .f64 kv] := rfl
      have e16 : rL2R src m tl kl ll loc kv v nd2 nd3 nd5 nd6 B11_19 B11_18 B11_17 B11_16 B11_15 B11_13 B11_12 B11_11 B11_10 B11_9 B11_7 B11_6 B11_4 B11_3 B11_2 B11 nd14 nd15 nd16 nd17 nd18 nd19 nd20 nd21 B22_1 B22 B24 (fun k => decide (k < 10)) α 16999 = row (B11_19) 34 #[.iface 40 (.pointer (some ⟨B11_16, 0, none⟩)), .int .i32 loc] := rfl
      have e17 : rL2R src m tl kl ll loc kv v nd2 nd3 nd5 nd6 B11_19 B11_18 B11_17 B11_16 B11_15 B11_13 B11_12 B11_11 B11_10 B11_9 B11_7 B11_6 B11_4 B11_3 B11_2 B11 nd14 nd15 nd16 nd17 nd18 nd19 nd20 nd21 B22_1 B22 B24 (fun k => decide (k < 10)) α 17999 = row (B11_18) 34 #[.iface 38 (.pointer (some ⟨B11_12, 0, none⟩)), .int .i32 ll] := rfl
      have e18 : rL2R src m tl kl ll loc kv v nd2 nd3 nd5 nd6 B11_19 B11_18 B11_17 B11_16 B11_15 B11_13 B11_12 B11_11 B11_10 B11_9 B11_7 B11_6 B11_4 B11_3 B11_2 B11 nd14 nd15 nd16 nd17 nd18 nd19 nd20 nd21 B22_1 B22 B24 (fun k => decide (k < 10)) α 18999 = row (B11_17) 34 #[.iface 40 (.pointer (some ⟨B11_16, 0, none⟩)), .int .i32 loc] := rfl
      have e19 : rL2R src m tl kl ll loc kv v nd2 nd3 nd5 nd6 B11_19 B11_18 B11_17 B11_16 B11_15 B11_13 B11_12 B11_11 B11_10 B11_9 B11_7 B11_6 B11_4 B11_3 B11_2 B11 nd14 nd15 nd16 nd17 nd18 nd19 nd20 nd21 B22_1 B22 B24 (fun k => decide (k < 10)) α 19999 = row (B11_16) 182 #[.float .f64 v] := rfl
      have e20 : rL2R src m tl kl ll loc kv v nd2 nd3 nd5 nd6 B11_19 B11_18 B11_17 B11_16 B11_15 B11_13 B11_12 B11_11 B11_10 B11_9 B11_7 B11_6 B11_4 B11_3 B11_2 B11 nd14 nd15 nd16 nd17 nd18 nd19 nd20 nd21 B22_1 B22 B24 (fun k => decide (k < 10)) α 20999 = row (B11_15) 34 #[.iface 40 (.pointer (some ⟨B11_16, 0, none⟩)), .int .i32 loc] := rfl
      have e21 : rL2R src m tl kl ll loc kv v nd2 nd3 nd5 nd6 B11_19 B11_18 B11_17 B11_16 B11_15 B11_13 B11_12 B11_11 B11_10 B11_9 B11_7 B11_6 B11_4 B11_3 B11_2 B11 nd14 nd15 nd16 nd17 nd18 nd19 nd20 nd21 B22_1 B22 B24 (fun k => decide (k < 10)) α 21999 = row (B11_13) 34 #[.iface 38 (.pointer (some ⟨B11_12, 0, none⟩)), .int .i32 ll] := rfl
      have e22 : rL2R src m tl kl ll loc kv v nd2 nd3 nd5 nd6 B11_19 B11_18 B11_17 B11_16 B11_15 B11_13 B11_12 B11_11 B11_10 B11_9 B11_7 B11_6 B11_4 B11_3 B11_2 B11 nd14 nd15 nd16 nd17 nd18 nd19 nd20 nd21 B22_1 B22 B24 (fun k => decide (k < 10)) α 22999 = row (B11_11) 34 #[.iface 38 (.pointer (some ⟨B11_12, 0, none⟩)), .int .i32 ll] := rfl
      have e23 : rL2R src m tl kl ll loc kv v nd2 nd3 nd5 nd6 B11_19 B11_18 B11_17 B11_16 B11_15 B11_13 B11_12 B11_11 B11_10 B11_9 B11_7 B11_6 B11_4 B11_3 B11_2 B11 nd14 nd15 nd16 nd17 nd18 nd19 nd20 nd21 B22_1 B22 B24 (fun k => decide (k < 10)) α 23999 = row (B11_10) 34 #[.iface 40 (.pointer (some ⟨B11_7, 0, none⟩)), .int .i32 kl] := rfl
      have e24 : rL2R src m tl kl ll loc kv v nd2 nd3 nd5 nd6 B11_19 B11_18 B11_17 B11_16 B11_15 B11_13 B11_12 B11_11 B11_10 B11_9 B11_7 B11_6 B11_4 B11_3 B11_2 B11 nd14 nd15 nd16 nd17 nd18 nd19 nd20 nd21 B22_1 B22 B24 (fun k => decide (k < 10)) α 24999 = row (B11_9) 34 #[.iface 52 (.pointer (some ⟨B11_4, 0, none⟩)), .int .i32 tl] := rfl
      have e25 : rL2R src m tl kl ll loc kv v nd2 nd3 nd5 nd6 B11_19 B11_18 B11_17 B11_16 B11_15 B11_13 B11_12 B11_11 B11_10 B11_9 B11_7 B11_6 B11_4 B11_3 B11_2 B11 nd14 nd15 nd16 nd17 nd18 nd19 nd20 nd21 B22_1 B22 B24 (fun k => decide (k < 10)) α 25999 = row (B11_6) 34 #[.iface 40 (.pointer (some ⟨B11_7, 0, none⟩)), .int .i32 kl] := rfl
      have e26 : rL2R src m tl kl ll loc kv v nd2 nd3 nd5 nd6 B11_19 B11_18 B11_17 B11_16 B11_15 B11_13 B11_12 B11_11 B11_10 B11_9 B11_7 B11_6 B11_4 B11_3 B11_2 B11 nd14 nd15 nd16 nd17 nd18 nd19 nd20 nd21 B22_1 B22 B24 (fun k => decide (k < 10)) α 26999 = row (B11_3) 34 #[.iface 52 (.pointer (some ⟨B11_4, 0, none⟩)), .int .i32 tl] := rfl
      have e27 : rL2R src m tl kl ll loc kv v nd2 nd3 nd5 nd6 B11_19 B11_18 B11_17 B11_16 B11_15 B11_13 B11_12 B11_11 B11_10 B11_9 B11_7 B11_6 B11_4 B11_3 B11_2 B11 nd14 nd15 nd16 nd17 nd18 nd19 nd20 nd21 B22_1 B22 B24 (fun k => decide (k < 10)) α 27999 = row (B11_2) 28 #[.int .u32 src, .int .u32 (m : Int)] := rfl
      have e28 : rL2R src m tl kl ll loc kv v nd2 nd3 nd5 nd6 B11_19 B11_18 B11_17 B11_16 B11_15 B11_13 B11_12 B11_11 B11_10 B11_9 B11_7 B11_6 B11_4 B11_3 B11_2 B11 nd14 nd15 nd16 nd17 nd18 nd19 nd20 nd21 B22_1 B22 B24 (fun k => decide (k < 10)) α 28999 = row (B11) 28 #[.int .u32 src, .int .u32 (m : Int)] := rfl
      have hO : Own w0 u [row (B24) 34 #[.iface 42 (.pointer (some ⟨nd15, 0, none⟩)), .int .i32 ll], row (B22_1) 34 #[.iface 42 (.pointer (some ⟨nd14, 0, none⟩)), .int .i32 loc], row (B22) 34 #[.iface 42 (.pointer (some ⟨nd14, 0, none⟩)), .int .i32 loc], row (nd2) 178 nd5, row (nd3) 196 (bumped (bumped nd6 m (0 : Nat)) m (1 : Nat)), row (B11_12) 56 #[.iface 52 (.pointer (some ⟨B11_4, 0, none⟩)), .int .i32 tl, .iface 40 (.pointer (some ⟨B11_7, 0, none⟩)), .int .i32 kl, .int .i32 0, .int .u8 0, .bool false, .bool false, .bool false], row (B11_4) 180 #[.int .u32 src, .int .u32 (m : Int), .bool false, .bool false, .bool false], row (B11_7) 182 #[.float .f64 kv], row (nd14) 45 #[.iface 38 (.pointer (some ⟨nd16, 0, none⟩)), .int .i32 ll, .iface 42 (.pointer (some ⟨nd15, 0, none⟩)), .int .i32 ll, .int .u8 30, .bool false], row (nd15) 45 #[.iface 38 (.pointer (some ⟨nd17, 0, none⟩)), .int .i32 ll, .iface 40 (.pointer (some ⟨B11_16, 0, none⟩)), .int .i32 loc, .int .u8 37, .bool false], row (nd16) 56 #[.iface 52 (.pointer (some ⟨nd18, 0, none⟩)), .int .i32 ll, .iface 40 (.pointer (some ⟨nd19, 0, none⟩)), .int .i32 ll, .int .i32 0, .int .u8 0, .bool false, .bool false, .bool false], row (nd17) 56 #[.iface 52 (.pointer (some ⟨nd20, 0, none⟩)), .int .i32 ll, .iface 40 (.pointer (some ⟨nd21, 0, none⟩)), .int .i32 ll, .int .i32 0, .int .u8 0, .bool false, .bool false, .bool false], row (nd18) 180 #[.int .u32 src, .int .u32 (m : Int), .bool false, .bool false, .bool false], row (nd19) 182 #[.float .f64 kv], row (nd20) 180 #[.int .u32 src, .int .u32 (m : Int), .bool false, .bool false, .bool false], row (nd21) 182 #[.float .f64 kv], row (B11_19) 34 #[.iface 40 (.pointer (some ⟨B11_16, 0, none⟩)), .int .i32 loc], row (B11_18) 34 #[.iface 38 (.pointer (some ⟨B11_12, 0, none⟩)), .int .i32 ll], row (B11_17) 34 #[.iface 40 (.pointer (some ⟨B11_16, 0, none⟩)), .int .i32 loc], row (B11_16) 182 #[.float .f64 v], row (B11_15) 34 #[.iface 40 (.pointer (some ⟨B11_16, 0, none⟩)), .int .i32 loc], row (B11_13) 34 #[.iface 38 (.pointer (some ⟨B11_12, 0, none⟩)), .int .i32 ll], row (B11_11) 34 #[.iface 38 (.pointer (some ⟨B11_12, 0, none⟩)), .int .i32 ll], row (B11_10) 34 #[.iface 40 (.pointer (some ⟨B11_7, 0, none⟩)), .int .i32 kl], row (B11_9) 34 #[.iface 52 (.pointer (some ⟨B11_4, 0, none⟩)), .int .i32 tl], row (B11_6) 34 #[.iface 40 (.pointer (some ⟨B11_7, 0, none⟩)), .int .i32 kl], row (B11_3) 34 #[.iface 52 (.pointer (some ⟨B11_4, 0, none⟩)), .int .i32 tl], row (B11_2) 28 #[.int .u32 src, .int .u32 (m : Int)], row (B11) 28 #[.int .u32 src, .int .u32 (m : Int)]] X := (hG.list [999, 1999, 2999, 3999, 4999, 5999, 6999, 7999, 8999, 9999, 10999, 11999, 12999, 13999, 14999, 15999, 16999, 17999, 18999, 19999, 20999, 21999, 22999, 23999, 24999, 25999, 26999, 27999, 28999] (by decide) (act_all (by decide))).conv (by
        show [rL2R src m tl kl ll loc kv v nd2 nd3 nd5 nd6 B11_19 B11_18 B11_17 B11_16 B11_15 B11_13 B11_12 B11_11 B11_10 B11_9 B11_7 B11_6 B11_4 B11_3 B11_2 B11 nd14 nd15 nd16 nd17 nd18 nd19 nd20 nd21 B22_1 B22 B24 (fun k => decide (k < 10)) α 999, rL2R src m tl kl ll loc kv v nd2 nd3 nd5 nd6 B11_19 B11_18 B11_17 B11_16 B11_15 B11_13 B11_12 B11_11 B11_10 B11_9 B11_7 B11_6 B11_4 B11_3 B11_2 B11 nd14 nd15 nd16 nd17 nd18 nd19 nd20 nd21 B22_1 B22 B24 (fun k => decide (k < 10)) α 1999, rL2R src m tl kl ll loc kv v nd2 nd3 nd5 nd6 B11_19 B11_18 B11_17 B11_16 B11_15 B11_13 B11_12 B11_11 B11_10 B11_9 B11_7 B11_6 B11_4 B11_3 B11_2 B11 nd14 nd15 nd16 nd17 nd18 nd19 nd20 nd21 B22_1 B22 B24 (fun k => decide (k < 10)) α 2999, rL2R src m tl kl ll loc kv v nd2 nd3 nd5 nd6 B11_19 B11_18 B11_17 B11_16 B11_15 B11_13 B11_12 B11_11 B11_10 B11_9 B11_7 B11_6 B11_4 B11_3 B11_2 B11 nd14 nd15 nd16 nd17 nd18 nd19 nd20 nd21 B22_1 B22 B24 (fun k => decide (k < 10)) α 3999, rL2R src m tl kl ll loc kv v nd2 nd3 nd5 nd6 B11_19 B11_18 B11_17 B11_16 B11_15 B11_13 B11_12 B11_11 B11_10 B11_9 B11_7 B11_6 B11_4 B11_3 B11_2 B11 nd14 nd15 nd16 nd17 nd18 nd19 nd20 nd21 B22_1 B22 B24 (fun k => decide (k < 10)) α 4999, rL2R src m tl kl ll loc kv v nd2 nd3 nd5 nd6 B11_19 B11_18 B11_17 B11_16 B11_15 B11_13 B11_12 B11_11 B11_10 B11_9 B11_7 B11_6 B11_4 B11_3 B11_2 B11 nd14 nd15 nd16 nd17 nd18 nd19 nd20 nd21 B22_1 B22 B24 (fun k => decide (k < 10)) α 5999, rL2R src m tl kl ll loc kv v nd2 nd3 nd5 nd6 B11_19 B11_18 B11_17 B11_16 B11_15 B11_13 B11_12 B11_11 B11_10 B11_9 B11_7 B11_6 B11_4 B11_3 B11_2 B11 nd14 nd15 nd16 nd17 nd18 nd19 nd20 nd21 B22_1 B22 B24 (fun k => decide (k < 10)) α 6999, rL2R src m tl kl ll loc kv v nd2 nd3 nd5 nd6 B11_19 B11_18 B11_17 B11_16 B11_15 B11_13 B11_12 B11_11 B11_10 B11_9 B11_7 B11_6 B11_4 B11_3 B11_2 B11 nd14 nd15 nd16 nd17 nd18 nd19 nd20 nd21 B22_1 B22 B24 (fun k => decide (k < 10)) α 7999, rL2R src m tl kl ll loc kv v nd2 nd3 nd5 nd6 B11_19 B11_18 B11_17 B11_16 B11_15 B11_13 B11_12 B11_11 B11_10 B11_9 B11_7 B11_6 B11_4 B11_3 B11_2 B11 nd14 nd15 nd16 nd17 nd18 nd19 nd20 nd21 B22_1 B22 B24 (fun k => decide (k < 10)) α 8999, rL2R src m tl kl ll loc kv v nd2 nd3 nd5 nd6 B11_19 B11_18 B11_17 B11_16 B11_15 B11_13 B11_12 B11_11 B11_10 B11_9 B11_7 B11_6 B11_4 B11_3 B11_2 B11 nd14 nd15 nd16 nd17 nd18 nd19 nd20 nd21 B22_1 B22 B24 (fun k => decide (k < 10)) α 9999, rL2R src m tl kl ll loc kv v nd2 nd3 nd5 nd6 B11_19 B11_18 B11_17 B11_16 B11_15 B11_13 B11_12 B11_11 B11_10 B11_9 B11_7 B11_6 B11_4 B11_3 B11_2 B11 nd14 nd15 nd16 nd17 nd18 nd19 nd20 nd21 B22_1 B22 B24 (fun k => decide (k < 10)) α 10999, rL2R src m tl kl ll loc kv v nd2 nd3 nd5 nd6 B11_19 B11_18 B11_17 B11_16 B11_15 B11_13 B11_12 B11_11 B11_10 B11_9 B11_7 B11_6 B11_4 B11_3 B11_2 B11 nd14 nd15 nd16 nd17 nd18 nd19 nd20 nd21 B22_1 B22 B24 (fun k => decide (k < 10)) α 11999, rL2R src m tl kl ll loc kv v nd2 nd3 nd5 nd6 B11_19 B11_18 B11_17 B11_16 B11_15 B11_13 B11_12 B11_11 B11_10 B11_9 B11_7 B11_6 B11_4 B11_3 B11_2 B11 nd14 nd15 nd16 nd17 nd18 nd19 nd20 nd21 B22_1 B22 B24 (fun k => decide (k < 10)) α 12999, rL2R src m tl kl ll loc kv v nd2 nd3 nd5 nd6 B11_19 B11_18 B11_17 B11_16 B11_15 B11_13 B11_12 B11_11 B11_10 B11_9 B11_7 B11_6 B11_4 B11_3 B11_2 B11 nd14 nd15 nd16 nd17 nd18 nd19 nd20 nd21 B22_1 B22 B24 (fun k => decide (k < 10)) α 13999, rL2R src m tl kl ll loc kv v nd2 nd3 nd5 nd6 B11_19 B11_18 B11_17 B11_16 B11_15 B11_13 B11_12 B11_11 B11_10 B11_9 B11_7 B11_6 B11_4 B11_3 B11_2 B11 nd14 nd15 nd16 nd17 nd18 nd19 nd20 nd21 B22_1 B22 B24 (fun k => decide (k < 10)) α 14999, rL2R src m tl kl ll loc kv v nd2 nd3 nd5 nd6 B11_19 B11_18 B11_17 B11_16 B11_15 B11_13 B11_12 B11_11 B11_10 B11_9 B11_7 B11_6 B11_4 B11_3 B11_2 B11 nd14 nd15 nd16 nd17 nd18 nd19 nd20 nd21 B22_1 B22 B24 (fun k => decide (k < 10)) α 15999, rL2R src m tl kl ll loc kv v nd2 nd3 nd5 nd6 B11_19 B11_18 B11_17 B11_16 B11_15 B11_13 B11_12 B11_11 B11_10 B11_9 B11_7 B11_6 B11_4 B11_3 B11_2 B11 nd14 nd15 nd16 nd17 nd18 nd19 nd20 nd21 B22_1 B22 B24 (fun k => decide (k < 10)) α 16999, rL2R src m tl kl ll loc kv v nd2 nd3 nd5 nd6 B11_19 B11_18 B11_17 B11_16 B11_15 B11_13 B11_12 B11_11 B11_10 B11_9 B11_7 B11_6 B11_4 B11_3 B11_2 B11 nd14 nd15 nd16 nd17 nd18 nd19 nd20 nd21 B22_1 B22 B24 (fun k => decide (k < 10)) α 17999, rL2R src m tl kl ll loc kv v nd2 nd3 nd5 nd6 B11_19 B11_18 B11_17 B11_16 B11_15 B11_13 B11_12 B11_11 B11_10 B11_9 B11_7 B11_6 B11_4 B11_3 B11_2 B11 nd14 nd15 nd16 nd17 nd18 nd19 nd20 nd21 B22_1 B22 B24 (fun k => decide (k < 10)) α 18999, rL2R src m tl kl ll loc kv v nd2 nd3 nd5 nd6 B11_19 B11_18 B11_17 B11_16 B11_15 B11_13 B11_12 B11_11 B11_10 B11_9 B11_7 B11_6 B11_4 B11_3 B11_2 B11 nd14 nd15 nd16 nd17 nd18 nd19 nd20 nd21 B22_1 B22 B24 (fun k => decide (k < 10)) α 19999, rL2R src m tl kl ll loc kv v nd2 nd3 nd5 nd6 B11_19 B11_18 B11_17 B11_16 B11_15 B11_13 B11_12 B11_11 B11_10 B11_9 B11_7 B11_6 B11_4 B11_3 B11_2 B11 nd14 nd15 nd16 nd17 nd18 nd19 nd20 nd21 B22_1 B22 B24 (fun k => decide (k < 10)) α 20999, rL2R src m tl kl ll loc kv v nd2 nd3 nd5 nd6 B11_19 B11_18 B11_17 B11_16 B11_15 B11_13 B11_12 B11_11 B11_10 B11_9 B11_7 B11_6 B11_4 B11_3 B11_2 B11 nd14 nd15 nd16 nd17 nd18 nd19 nd20 nd21 B22_1 B22 B24 (fun k => decide (k < 10)) α 21999, rL2R src m tl kl ll loc kv v nd2 nd3 nd5 nd6 B11_19 B11_18 B11_17 B11_16 B11_15 B11_13 B11_12 B11_11 B11_10 B11_9 B11_7 B11_6 B11_4 B11_3 B11_2 B11 nd14 nd15 nd16 nd17 nd18 nd19 nd20 nd21 B22_1 B22 B24 (fun k => decide (k < 10)) α 22999, rL2R src m tl kl ll loc kv v nd2 nd3 nd5 nd6 B11_19 B11_18 B11_17 B11_16 B11_15 B11_13 B11_12 B11_11 B11_10 B11_9 B11_7 B11_6 B11_4 B11_3 B11_2 B11 nd14 nd15 nd16 nd17 nd18 nd19 nd20 nd21 B22_1 B22 B24 (fun k => decide (k < 10)) α 23999, rL2R src m tl kl ll loc kv v nd2 nd3 nd5 nd6 B11_19 B11_18 B11_17 B11_16 B11_15 B11_13 B11_12 B11_11 B11_10 B11_9 B11_7 B11_6 B11_4 B11_3 B11_2 B11 nd14 nd15 nd16 nd17 nd18 nd19 nd20 nd21 B22_1 B22 B24 (fun k => decide (k < 10)) α 24999, rL2R src m tl kl ll loc kv v nd2 nd3 nd5 nd6 B11_19 B11_18 B11_17 B11_16 B11_15 B11_13 B11_12 B11_11 B11_10 B11_9 B11_7 B11_6 B11_4 B11_3 B11_2 B11 nd14 nd15 nd16 nd17 nd18 nd19 nd20 nd21 B22_1 B22 B24 (fun k => decide (k < 10)) α 25999, rL2R src m tl kl ll loc kv v nd2 nd3 nd5 nd6 B11_19 B11_18 B11_17 B11_16 B11_15 B11_13 B11_12 B11_11 B11_10 B11_9 B11_7 B11_6 B11_4 B11_3 B11_2 B11 nd14 nd15 nd16 nd17 nd18 nd19 nd20 nd21 B22_1 B22 B24 (fun k => decide (k < 10)) α 26999, rL2R src m tl kl ll loc kv v nd2 nd3 nd5 nd6 B11_19 B11_18 B11_17 B11_16 B11_15 B11_13 B11_12 B11_11 B11_10 B11_9 B11_7 B11_6 B11_4 B11_3 B11_2 B11 nd14 nd15 nd16 nd17 nd18 nd19 nd20 nd21 B22_1 B22 B24 (fun k => decide (k < 10)) α 27999, rL2R src m tl kl ll loc kv v nd2 nd3 nd5 nd6 B11_19 B11_18 B11_17 B11_16 B11_15 B11_13 B11_12 B11_11 B11_10 B11_9 B11_7 B11_6 B11_4 B11_3 B11_2 B11 nd14 nd15 nd16 nd17 nd18 nd19 nd20 nd21 B22_1 B22 B24 (fun k => decide (k < 10)) α 28999] = _
        rw [e0, e1, e2, e3, e4, e5, e6, e7, e8, e9, e10, e11, e12, e13, e14, e15, e16, e17, e18, e19, e20, e21, e22, e23, e24, e25, e26, e27, e28])
      clear hG e0 e1 e2 e3 e4 e5 e6 e7 e8 e9 e10 e11 e12 e13 e14 e15 e16 e17 e18 e19 e20 e21 e22 e23 e24 e25 e26 e27 e28
      generalize hfr : Rega.frameAt _ _ _ _ _ = fr
      have hdf : fr = ⟨#[.int .u64 x, .int .u32 src, .int .u32 (m : Int), .int .i32 tl, .int .i32 kl, .int .i32 ll, .int .i32 loc, .float .f64 kv, .float .f64 v, undef, undef, undef, undef, undef, undef, undef, undef, undef, .bool false, .int .i64 ((m : Int) + 1), .pointer (some ⟨nd2, 0, none⟩), .pointer (some ⟨B11, 0, none⟩), .pointer (some ⟨B11_13, 0, none⟩), .pointer (some ⟨B11_17, 0, none⟩), .pointer (some ⟨B11_12, 0, none⟩), .pointer (some ⟨B11_16, 0, none⟩), .pointer (some ⟨B11_20, 0, none⟩), .pointer (some ⟨B22, 0, none⟩), .bool true, .pointer (some ⟨nd14, 0, none⟩), .pointer (some ⟨nd16, 0, none⟩), .pointer (some ⟨nd15, 0, none⟩), .pointer (some ⟨nd17, 0, none⟩), .int .u32 (m : Int), .bool (decide (65536 < (m : Int))), .int .u64 x, .int .u64 (bits BinOp.and .u64 x 4398046511104), .bool false, .int .u32 (m : Int), .int .i64 (m : Int), .int .i64 ((m : Int) + 1), .int .u64 x, .int .i64 ((m : Int) + 1), .agg #[.int .u32 0, .int .u32 0], .pointer (some ⟨nd2, 0, none⟩), .int .u32 src, .int .u32 (m : Int), .agg #[.int .u32 src, .int .u32 (m : Int)], .int .i32 ll, .agg #[.int .i32 ll], .int .i32 tl, .agg #[.int .i32 tl], .agg #[.int .u32 src, .int .u32 (m : Int)], .agg #[.iface 52 (.pointer (some ⟨B11_4, 0, none⟩)), .int .i32 tl], .int .i32 kl, .agg #[.int .i32 kl], .float .f64 kv, .agg #[.iface 40 (.pointer (some ⟨B11_7, 0, none⟩)), .int .i32 kl], .agg #[.iface 38 (.pointer (some ⟨B11_12, 0, none⟩)), .int .i32 ll], .int .i32 loc, .agg #[.int .i32 loc], .float .f64 v, .agg #[.iface 40 (.pointer (some ⟨B11_16, 0, none⟩)), .int .i32 loc], .agg #[.iface 38 (.pointer (some ⟨B11_12, 0, none⟩)), .int .i32 ll], .pointer (some ⟨B11_12, 0, none⟩), .agg #[.iface 40 (.pointer (some ⟨B11_16, 0, none⟩)), .int .i32 loc], .pointer (some ⟨B11_16, 0, none⟩), .agg #[.iface 38 (.pointer (some ⟨B11_12, 0, none⟩)), .int .i32 ll], .agg #[.iface 40 (.pointer (some ⟨B11_16, 0, none⟩)), .int .i32 loc], .agg #[.iface 38 (.pointer (some ⟨B11_12, 0, none⟩)), .int .i32 ll, .iface 40 (.pointer (some ⟨B11_16, 0, none⟩)), .int .i32 loc, .int .u8 0, .bool false], .pointer (some ⟨B11_20, 0, none⟩), .tuple #[.agg #[.iface 42 (.pointer (some ⟨nd14, 0, none⟩)), .int .i32 loc], .bool true], .pointer (some ⟨nd2, 0, none⟩), .int .i32 loc, .agg #[.int .i32 loc], .pointer (some ⟨B11_20, 0, none⟩), .tuple #[.agg #[.iface 42 (.pointer (some ⟨nd14, 0, none⟩)), .int .i32 loc], .bool true], .agg #[.iface 42 (.pointer (some ⟨nd14, 0, none⟩)), .int .i32 loc], .bool true, .int .u64 x, .int .u64 (bits BinOp.and .u64 x 137438953472), .bool (bits BinOp.and .u64 x 137438953472 == 0), undef, undef, undef, undef, undef, undef, undef, undef, undef, undef, undef, undef, undef, undef, undef, undef, undef, undef, .bool true, .bool false, .bool false, .pointer (some ⟨B22, 1, none⟩), .pointer (some ⟨B22, 1, none⟩), .int .i32 loc, .int .i32 loc, .bool false, .bool false, .agg #[.iface 42 (.pointer (some ⟨nd14, 0, none⟩)), .int .i32 loc], .pointer (some ⟨nd14, 0, none⟩), .pointer (some ⟨nd14, 0, none⟩), .bool false, .bool false, .pointer (some ⟨nd14, 0, none⟩), .pointer (some ⟨nd14, 0, none⟩), .pointer (some ⟨nd14, 4, none⟩), .int .u8 30, .bool false, .bool false, .pointer (some ⟨nd14, 0, none⟩), .pointer (some ⟨nd14, 0, none⟩), .pointer (some ⟨nd14, 0, none⟩), .agg #[.iface 38 (.pointer (some ⟨nd16, 0, none⟩)), .int .i32 ll], .int .i32 ll, .agg #[.int .u32 src, .int .u32 (m : Int)], .float .f64 kv, .pointer (some ⟨B11_12, 0, none⟩), .pointer (some ⟨nd16, 0, none⟩), .pointer (some ⟨nd14, 0, none⟩), .pointer (some ⟨nd14, 0, none⟩), .pointer (some ⟨nd14, 2, none⟩), .agg #[.iface 42 (.pointer (some ⟨nd15, 0, none⟩)), .int .i32 ll], .pointer (some ⟨nd15, 0, none⟩), .pointer (some ⟨nd16, 0, none⟩), .bool false, .bool false, .pointer (some ⟨nd15, 0, none⟩), .bool false, .bool false, .bool false, .pointer (some ⟨nd15, 0, none⟩), .pointer (some ⟨nd15, 0, none⟩), .pointer (some ⟨nd15, 4, none⟩), .int .u8 37, .bool false, .bool false, .pointer (some ⟨nd15, 0, none⟩), .pointer (some ⟨nd15, 0, none⟩), .pointer (some ⟨nd15, 0, none⟩), .agg #[.iface 38 (.pointer (some ⟨nd17, 0, none⟩)), .int .i32 ll], .int .i32 ll, .agg #[.int .u32 src, .int .u32 (m : Int)], .float .f64 kv, .pointer (some ⟨B11_12, 0, none⟩), .pointer (some ⟨nd17, 0, none⟩), undef, undef, undef, undef, undef, undef, undef, undef, undef, undef, undef, undef, undef, undef, undef, undef, undef, undef, undef, undef, undef, undef, undef, undef, undef, undef, undef, undef, undef, undef, undef, undef, undef, undef, undef, undef, undef, undef, undef, undef, undef, undef, undef, undef, undef, undef, undef, undef, undef, undef, undef], []⟩ := by rw [← hfr]; kernel_rfl
      clear hfr
      subst hdf
      clear α
      have hN : Own w0 u [row (nd2) 178 nd5, row (nd3) 196 (bumped (bumped nd6 m (0 : Nat)) m (1 : Nat)), row (B11_12) 56 #[.iface 52 (.pointer (some ⟨B11_4, 0, none⟩)), .int .i32 tl, .iface 40 (.pointer (some ⟨B11_7, 0, none⟩)), .int .i32 kl, .int .i32 0, .int .u8 0, .bool false, .bool false, .bool false], row (B11_4) 180 #[.int .u32 src, .int .u32 (m : Int), .bool false, .bool false, .bool false], row (B11_7) 182 #[.float .f64 kv], row (nd14) 45 #[.iface 38 (.pointer (some ⟨nd16, 0, none⟩)), .int .i32 ll, .iface 42 (.pointer (some ⟨nd15, 0, none⟩)), .int .i32 ll, .int .u8 30, .bool false], row (nd15) 45 #[.iface 38 (.pointer (some ⟨nd17, 0, none⟩)), .int .i32 ll, .iface 40 (.pointer (some ⟨B11_16, 0, none⟩)), .int .i32 loc, .int .u8 37, .bool false], row (nd16) 56 #[.iface 52 (.pointer (some ⟨nd18, 0, none⟩)), .int .i32 ll, .iface 40 (.pointer (some ⟨nd19, 0, none⟩)), .int .i32 ll, .int .i32 0, .int .u8 0, .bool false, .bool false, .bool false], row (nd17) 56 #[.iface 52 (.pointer (some ⟨nd20, 0, none⟩)), .int .i32 ll, .iface 40 (.pointer (some ⟨nd21, 0, none⟩)), .int .i32 ll, .int .i32 0, .int .u8 0, .bool false, .bool false, .bool false], row (nd18) 180 #[.int .u32 src, .int .u32 (m : Int), .bool false, .bool false, .bool false], row (nd19) 182 #[.float .f64 kv], row (nd20) 180 #[.int .u32 src, .int .u32 (m : Int), .bool false, .bool false, .bool false], row (nd21) 182 #[.float .f64 kv], row (B11_16) 182 #[.float .f64 v], row (B11_2) 28 #[.int .u32 src, .int .u32 (m : Int)], row (B11) 28 #[.int .u32 src, .int .u32 (m : Int)]] X := hO.sub [3, 4, 5, 6, 7, 8, 9, 10, 11, 12, 13, 14, 15, 19, 27, 28] (by decide)
      clear hO
      have hO := hN
      clear hN
      have pl9_2 : Base.plainAt u (B11_12) = true := hO.plain 2 rfl
      have pl9_7 : Base.plainAt u (nd16) = true := hO.plain 7 rfl
      have pl9_8 : Base.plainAt u (nd17) = true := hO.plain 8 rfl
      have pl9_9 : Base.plainAt u (nd18) = true := hO.plain 9 rfl
      have pl9_10 : Base.plainAt u (nd19) = true := hO.plain 10 rfl
      have pl9_11 : Base.plainAt u (nd20) = true := hO.plain 11 rfl
      have pl9_12 : Base.plainAt u (nd21) = true := hO.plain 12 rfl
      have ne9_2_7 : ¬ B11_12 = nd16 := hO.ne 2 7 rfl rfl (by decide)
      have ne9_2_8 : ¬ B11_12 = nd17 := hO.ne 2 8 rfl rfl (by decide)
      have ne9_7_2 : ¬ nd16 = B11_12 := hO.ne 7 2 rfl rfl (by decide)
      have ne9_7_8 : ¬ nd16 = nd17 := hO.ne 7 8 rfl rfl (by decide)
      have ne9_8_2 : ¬ nd17 = B11_12 := hO.ne 8 2 rfl rfl (by decide)
      have ne9_8_7 : ¬ nd17 = nd16 := hO.ne 8 7 rfl rfl (by decide)
      have ne9_9_11 : ¬ nd18 = nd20 := hO.ne 9 11 rfl rfl (by decide)
      have ne9_10_12 : ¬ nd19 = nd21 := hO.ne 10 12 rfl rfl (by decide)
      have ne9_11_9 : ¬ nd20 = nd18 := hO.ne 11 9 rfl rfl (by decide)
      have ne9_12_10 : ¬ nd21 = nd19 := hO.ne 12 10 rfl rfl (by decide)
      have c9_2_0 : u.cell? ⟨B11_12, 0, none⟩ = some (.iface 52 (.pointer (some ⟨B11_4, 0, none⟩))) := hO.cell 2 rfl 0 rfl
      have c9_2_1 : u.cell? ⟨B11_12, 1, none⟩ = some (.int .i32 tl) := hO.cell 2 rfl 1 rfl
      have c9_2_2 : u.cell? ⟨B11_12, 2, none⟩ = some (.iface 40 (.pointer (some ⟨B11_7, 0, none⟩))) := hO.cell 2 rfl 2 rfl
      have c9_2_3 : u.cell? ⟨B11_12, 3, none⟩ = some (.int .i32 kl) := hO.cell 2 rfl 3 rfl
      have c9_2_4 : u.cell? ⟨B11_12, 4, none⟩ = some (.int .i32 0) := hO.cell 2 rfl 4 rfl
      have c9_2_5 : u.cell? ⟨B11_12, 5, none⟩ = some (.int .u8 0) := hO.cell 2 rfl 5 rfl
      have c9_2_6 : u.cell? ⟨B11_12, 6, none⟩ = some (.bool false) := hO.cell 2 rfl 6 rfl
      have c9_2_7 : u.cell? ⟨B11_12, 7, none⟩ = some (.bool false) := hO.cell 2 rfl 7 rfl
      have c9_2_8 : u.cell? ⟨B11_12, 8, none⟩ = some (.bool false) := hO.cell 2 rfl 8 rfl
      have lt9_2 : B11_12 < u.heap.size := hO.lt 2 rfl
      have y9_2 : ∀ o, u.frozen? ⟨B11_12, o, none⟩ = false := hO.free 2 rfl
      have c9_3_0 : u.cell? ⟨B11_4, 0, none⟩ = some (.int .u32 src) := hO.cell 3 rfl 0 rfl
      have c9_3_1 : u.cell? ⟨B11_4, 1, none⟩ = some (.int .u32 (m : Int)) := hO.cell 3 rfl 1 rfl
      have c9_3_2 : u.cell? ⟨B11_4, 2, none⟩ = some (.bool false) := hO.cell 3 rfl 2 rfl
      have c9_3_3 : u.cell? ⟨B11_4, 3, none⟩ = some (.bool false) := hO.cell 3 rfl 3 rfl
      have c9_3_4 : u.cell? ⟨B11_4, 4, none⟩ = some (.bool false) := hO.cell 3 rfl 4 rfl
      have lt9_3 : B11_4 < u.heap.size := hO.lt 3 rfl
      have y9_3 : ∀ o, u.frozen? ⟨B11_4, o, none⟩ = false := hO.free 3 rfl
      have c9_4_0 : u.cell? ⟨B11_7, 0, none⟩ = some (.float .f64 kv) := hO.cell 4 rfl 0 rfl
      have lt9_4 : B11_7 < u.heap.size := hO.lt 4 rfl
      have y9_4 : ∀ o, u.frozen? ⟨B11_7, o, none⟩ = false := hO.free 4 rfl
      have c9_5_0 : u.cell? ⟨nd14, 0, none⟩ = some (.iface 38 (.pointer (some ⟨nd16, 0, none⟩))) := hO.cell 5 rfl 0 rfl
      have c9_5_1 : u.cell? ⟨nd14, 1, none⟩ = some (.int .i32 ll) := hO.cell 5 rfl 1 rfl
      have c9_5_2 : u.cell? ⟨nd14, 2, none⟩ = some (.iface 42 (.pointer (some ⟨nd15, 0, none⟩))) := hO.cell 5 rfl 2 rfl
      have c9_5_3 : u.cell? ⟨nd14, 3, none⟩ = some (.int .i32 ll) := hO.cell 5 rfl 3 rfl
      have c9_5_4 : u.cell? ⟨nd14, 4, none⟩ = some (.int .u8 30) := hO.cell 5 rfl 4 rfl
      have c9_5_5 : u.cell? ⟨nd14, 5, none⟩ = some (.bool false) := hO.cell 5 rfl 5 rfl
      have lt9_5 : nd14 < u.heap.size := hO.lt 5 rfl
      have y9_5 : ∀ o, u.frozen? ⟨nd14, o, none⟩ = false := hO.free 5 rfl
      have c9_6_0 : u.cell? ⟨nd15, 0, none⟩ = some (.iface 38 (.pointer (some ⟨nd17, 0, none⟩))) := hO.cell 6 rfl 0 rfl
      have c9_6_1 : u.cell? ⟨nd15, 1, none⟩ = some (.int .i32 ll) := hO.cell 6 rfl 1 rfl
      have c9_6_2 : u.cell? ⟨nd15, 2, none⟩ = some (.iface 40 (.pointer (some ⟨B11_16, 0, none⟩))) := hO.cell 6 rfl 2 rfl
      have c9_6_3 : u.cell? ⟨nd15, 3, none⟩ = some (.int .i32 loc) := hO.cell 6 rfl 3 rfl
      have c9_6_4 : u.cell? ⟨nd15, 4, none⟩ = some (.int .u8 37) := hO.cell 6 rfl 4 rfl
      have c9_6_5 : u.cell? ⟨nd15, 5, none⟩ = some (.bool false) := hO.cell 6 rfl 5 rfl
      have lt9_6 : nd15 < u.heap.size := hO.lt 6 rfl
      have y9_6 : ∀ o, u.frozen? ⟨nd15, o, none⟩ = false := hO.free 6 rfl
      have c9_7_0 : u.cell? ⟨nd16, 0, none⟩ = some (.iface 52 (.pointer (some ⟨nd18, 0, none⟩))) := hO.cell 7 rfl 0 rfl
      have c9_7_1 : u.cell? ⟨nd16, 1, none⟩ = some (.int .i32 ll) := hO.cell 7 rfl 1 rfl
      have c9_7_2 : u.cell? ⟨nd16, 2, none⟩ = some (.iface 40 (.pointer (some ⟨nd19, 0, none⟩))) := hO.cell 7 rfl 2 rfl
      have c9_7_3 : u.cell? ⟨nd16, 3, none⟩ = some (.int .i32 ll) := hO.cell 7 rfl 3 rfl
      have c9_7_4 : u.cell? ⟨nd16, 4, none⟩ = some (.int .i32 0) := hO.cell 7 rfl 4 rfl
      have c9_7_5 : u.cell? ⟨nd16, 5, none⟩ = some (.int .u8 0) := hO.cell 7 rfl 5 rfl
      have c9_7_6 : u.cell? ⟨nd16, 6, none⟩ = some (.bool false) := hO.cell 7 rfl 6 rfl
      have c9_7_7 : u.cell? ⟨nd16, 7, none⟩ = some (.bool false) := hO.cell 7 rfl 7 rfl
      have c9_7_8 : u.cell? ⟨nd16, 8, none⟩ = some (.bool false) := hO.cell 7 rfl 8 rfl
      have lt9_7 : nd16 < u.heap.size := hO.lt 7 rfl
      have y9_7 : ∀ o, u.frozen? ⟨nd16, o, none⟩ = false := hO.free 7 rfl
      have c9_8_0 : u.cell? ⟨nd17, 0, none⟩ = some (.iface 52 (.pointer (some ⟨nd20, 0, none⟩))) := hO.cell 8 rfl 0 rfl
      have c9_8_1 : u.cell? ⟨nd17, 1, none⟩ = some (.int .i32 ll) := hO.cell 8 rfl 1 rfl
      have c9_8_2 : u.cell? ⟨nd17, 2, none⟩ = some (.iface 40 (.pointer (some ⟨nd21, 0, none⟩))) := hO.cell 8 rfl 2 rfl
      have c9_8_3 : u.cell? ⟨nd17, 3, none⟩ = some (.int .i32 ll) := hO.cell 8 rfl 3 rfl
      have c9_8_4 : u.cell? ⟨nd17, 4, none⟩ = some (.int .i32 0) := hO.cell 8 rfl 4 rfl
      have c9_8_5 : u.cell? ⟨nd17, 5, none⟩ = some (.int .u8 0) := hO.cell 8 rfl 5 rfl
      have c9_8_6 : u.cell? ⟨nd17, 6, none⟩ = some (.bool false) := hO.cell 8 rfl 6 rfl
      have c9_8_7 : u.cell? ⟨nd17, 7, none⟩ = some (.bool false) := hO.cell 8 rfl 7 rfl
      have c9_8_8 : u.cell? ⟨nd17, 8, none⟩ = some (.bool false) := hO.cell 8 rfl 8 rfl
      have lt9_8 : nd17 < u.heap.size := hO.lt 8 rfl
      have y9_8 : ∀ o, u.frozen? ⟨nd17, o, none⟩ = false := hO.free 8 rfl
      have c9_9_0 : u.cell? ⟨nd18, 0, none⟩ = some (.int .u32 src) := hO.cell 9 rfl 0 rfl
      have c9_9_1 : u.cell? ⟨nd18, 1, none⟩ = some (.int .u32 (m : Int)) := hO.cell 9 rfl 1 rfl
      have c9_9_2 : u.cell? ⟨nd18, 2, none⟩ = some (.bool false) := hO.cell 9 rfl 2 rfl
      have c9_9_3 : u.cell? ⟨nd18, 3, none⟩ = some (.bool false) := hO.cell 9 rfl 3 rfl
      have c9_9_4 : u.cell? ⟨nd18, 4, none⟩ = some (.bool false) := hO.cell 9 rfl 4 rfl
      have lt9_9 : nd18 < u.heap.size := hO.lt 9 rfl
      have y9_9 : ∀ o, u.frozen? ⟨nd18, o, none⟩ = false := hO.free 9 rfl
      have c9_10_0 : u.cell? ⟨nd19, 0, none⟩ = some (.float .f64 kv) := hO.cell 10 rfl 0 rfl
      have lt9_10 : nd19 < u.heap.size := hO.lt 10 rfl
      have y9_10 : ∀ o, u.frozen? ⟨nd19, o, none⟩ = false := hO.free 10 rfl
      have c9_11_0 : u.cell? ⟨nd20, 0, none⟩ = some (.int .u32 src) := hO.cell 11 rfl 0 rfl
      have c9_11_1 : u.cell? ⟨nd20, 1, none⟩ = some (.int .u32 (m : Int)) := hO.cell 11 rfl 1 rfl
      have c9_11_2 : u.cell? ⟨nd20, 2, none⟩ = some (.bool false) := hO.cell 11 rfl 2 rfl
      have c9_11_3 : u.cell? ⟨nd20, 3, none⟩ = some (.bool false) := hO.cell 11 rfl 3 rfl
      have c9_11_4 : u.cell? ⟨nd20, 4, none⟩ = some (.bool false) := hO.cell 11 rfl 4 rfl
      have lt9_11 : nd20 < u.heap.size := hO.lt 11 rfl
      have y9_11 : ∀ o, u.frozen? ⟨nd20, o, none⟩ = false := hO.free 11 rfl
      have c9_12_0 : u.cell? ⟨nd21, 0, none⟩ = some (.float .f64 kv) := hO.cell 12 rfl 0 rfl
      have lt9_12 : nd21 < u.heap.size := hO.lt 12 rfl
      have y9_12 : ∀ o, u.frozen? ⟨nd21, o, none⟩ = false := hO.free 12 rfl
      have c9_13_0 : u.cell? ⟨B11_16, 0, none⟩ = some (.float .f64 v) := hO.cell 13 rfl 0 rfl
      have lt9_13 : B11_16 < u.heap.size := hO.lt 13 rfl
      have y9_13 : ∀ o, u.frozen? ⟨B11_16, o, none⟩ = false := hO.free 13 rfl
      have c9_14_0 : u.cell? ⟨B11_2, 0, none⟩ = some (.int .u32 src) := hO.cell 14 rfl 0 rfl
      have c9_14_1 : u.cell? ⟨B11_2, 1, none⟩ = some (.int .u32 (m : Int)) := hO.cell 14 rfl 1 rfl
      have lt9_14 : B11_2 < u.heap.size := hO.lt 14 rfl
      have y9_14 : ∀ o, u.frozen? ⟨B11_2, o, none⟩ = false := hO.free 14 rfl
      have c9_15_0 : u.cell? ⟨B11, 0, none⟩ = some (.int .u32 src) := hO.cell 15 rfl 0 rfl
      have c9_15_1 : u.cell? ⟨B11, 1, none⟩ = some (.int .u32 (m : Int)) := hO.cell 15 rfl 1 rfl
      have lt9_15 : B11 < u.heap.size := hO.lt 15 rfl
      have y9_15 : ∀ o, u.frozen? ⟨B11, o, none⟩ = false := hO.free 15 rfl
      have HO := Lib.hid hO
      clear hO
      go_wp2_with (first | (go_at_call 6; go_in) | (go_at_call 7; go_in) | (go_at_call 5; go_in) | (go_at_call 8; go_in) | (go_at_call 9; go_in) | (go_at_call 13; go_in) | (go_at_call 15; go_in) | (go_at_call 11; go_in))
      have hO := HO.out
      clear HO pl9_2 pl9_7 pl9_8 pl9_9 pl9_10 pl9_11 pl9_12 ne9_2_7 ne9_2_8 ne9_7_2 ne9_7_8 ne9_8_2 ne9_8_7 ne9_9_11 ne9_10_12 ne9_11_9 ne9_12_10 c9_2_0 c9_2_1 c9_2_2 c9_2_3 c9_2_4 c9_2_5 c9_2_6 c9_2_7 c9_2_8 lt9_2 y9_2 c9_3_0 c9_3_1 c9_3_2 c9_3_3 c9_3_4 lt9_3 y9_3 c9_4_0 lt9_4 y9_4 c9_5_0 c9_5_1 c9_5_2 c9_5_3 c9_5_4 c9_5_5 lt9_5 y9_5 c9_6_0 c9_6_1 c9_6_2 c9_6_3 c9_6_4 c9_6_5 lt9_6 y9_6 c9_7_0 c9_7_1 c9_7_2 c9_7_3 c9_7_4 c9_7_5 c9_7_6 c9_7_7 c9_7_8 lt9_7 y9_7 c9_8_0 c9_8_1 c9_8_2 c9_8_3 c9_8_4 c9_8_5 c9_8_6 c9_8_7 c9_8_8 lt9_8 y9_8 c9_9_0 c9_9_1 c9_9_2 c9_9_3 c9_9_4 lt9_9 y9_9 c9_10_0 lt9_10 y9_10 c9_11_0 c9_11_1 c9_11_2 c9_11_3 c9_11_4 lt9_11 y9_11 c9_12_0 lt9_12 y9_12 c9_13_0 lt9_13 y9_13 c9_14_0 c9_14_1 lt9_14 y9_14 c9_15_0 c9_15_1 lt9_15 y9_15
      have kq9_2_0 := cell_regrown (show u.cell? ⟨B11_12, 0, none⟩ = some (.iface 52 (.pointer (some ⟨B11_4, 0, none⟩))) from hO.cell 2 rfl 0 (rfl))
      have kq9_2_1 := cell_regrown (show u.cell? ⟨B11_12, 1, none⟩ = some (.int .i32 tl) from hO.cell 2 rfl 1 (rfl))
      have kq9_2_2 := cell_regrown (show u.cell? ⟨B11_12, 2, none⟩ = some (.iface 40 (.pointer (some ⟨B11_7, 0, none⟩))) from hO.cell 2 rfl 2 (rfl))
      have kq9_2_3 := cell_regrown (show u.cell? ⟨B11_12, 3, none⟩ = some (.int .i32 kl) from hO.cell 2 rfl 3 (rfl))
      have kq9_2_4 := cell_regrown (show u.cell? ⟨B11_12, 4, none⟩ = some (.int .i32 0) from hO.cell 2 rfl 4 (rfl))
      have kq9_2_5 := cell_regrown (show u.cell? ⟨B11_12, 5, none⟩ = some (.int .u8 0) from hO.cell 2 rfl 5 (rfl))
      have kq9_2_6 := cell_regrown (show u.cell? ⟨B11_12, 6, none⟩ = some (.bool false) from hO.cell 2 rfl 6 (rfl))
      have kq9_2_7 := cell_regrown (show u.cell? ⟨B11_12, 7, none⟩ = some (.bool false) from hO.cell 2 rfl 7 (rfl))
      have kq9_2_8 := cell_regrown (show u.cell? ⟨B11_12, 8, none⟩ = some (.bool false) from hO.cell 2 rfl 8 (rfl))
      have kq9_3_0 := cell_regrown (show u.cell? ⟨B11_4, 0, none⟩ = some (.int .u32 src) from hO.cell 3 rfl 0 (rfl))
      have kq9_3_1 := cell_regrown (show u.cell? ⟨B11_4, 1, none⟩ = some (.int .u32 (m : Int)) from hO.cell 3 rfl 1 (rfl))
      have kq9_3_2 := cell_regrown (show u.cell? ⟨B11_4, 2, none⟩ = some (.bool false) from hO.cell 3 rfl 2 (rfl))
      have kq9_3_3 := cell_regrown (show u.cell? ⟨B11_4, 3, none⟩ = some (.bool false) from hO.cell 3 rfl 3 (rfl))
      have kq9_3_4 := cell_regrown (show u.cell? ⟨B11_4, 4, none⟩ = some (.bool false) from hO.cell 3 rfl 4 (rfl))
      have kq9_4_0 := cell_regrown (show u.cell? ⟨B11_7, 0, none⟩ = some (.float .f64 kv) from hO.cell 4 rfl 0 (rfl))
      have kq9_5_0 := cell_regrown (show u.cell? ⟨nd14, 0, none⟩ = some (.iface 38 (.pointer (some ⟨nd16, 0, none⟩))) from hO.cell 5 rfl 0 (rfl))
      have kq9_5_1 := cell_regrown (show u.cell? ⟨nd14, 1, none⟩ = some (.int .i32 ll) from hO.cell 5 rfl 1 (rfl))
      have kq9_5_2 := cell_regrown (show u.cell? ⟨nd14, 2, none⟩ = some (.iface 42 (.pointer (some ⟨nd15, 0, none⟩))) from hO.cell 5 rfl 2 (rfl))
      have kq9_5_3 := cell_regrown (show u.cell? ⟨nd14, 3, none⟩ = some (.int .i32 ll) from hO.cell 5 rfl 3 (rfl))
      have kq9_5_4 := cell_regrown (show u.cell? ⟨nd14, 4, none⟩ = some (.int .u8 30) from hO.cell 5 rfl 4 (rfl))
      have kq9_5_5 := cell_regrown (show u.cell? ⟨nd14, 5, none⟩ = some (.bool false) from hO.cell 5 rfl 5 (rfl))
      have kq9_6_0 := cell_regrown (show u.cell? ⟨nd15, 0, none⟩ = some (.iface 38 (.pointer (some ⟨nd17, 0, none⟩))) from hO.cell 6 rfl 0 (rfl))
      have kq9_6_1 := cell_regrown (show u.cell? ⟨nd15, 1, none⟩ = some (.int .i32 ll) from hO.cell 6 rfl 1 (rfl))
      have kq9_6_2 := cell_regrown (show u.cell? ⟨nd15, 2, none⟩ = some (.iface 40 (.pointer (some ⟨B11_16, 0, none⟩))) from hO.cell 6 rfl 2 (rfl))
      have kq9_6_3 := cell_regrown (show u.cell? ⟨nd15, 3, none⟩ = some (.int .i32 loc) from hO.cell 6 rfl 3 (rfl))
      have kq9_6_4 := cell_regrown (show u.cell? ⟨nd15, 4, none⟩ = some (.int .u8 37) from hO.cell 6 rfl 4 (rfl))
      have kq9_6_5 := cell_regrown (show u.cell? ⟨nd15, 5, none⟩ = some (.bool false) from hO.cell 6 rfl 5 (rfl))
      have kq9_7_0 := cell_regrown (show u.cell? ⟨nd16, 0, none⟩ = some (.iface 52 (.pointer (some ⟨nd18, 0, none⟩))) from hO.cell 7 rfl 0 (rfl))
      have kq9_7_1 := cell_regrown (show u.cell? ⟨nd16, 1, none⟩ = some (.int .i32 ll) from hO.cell 7 rfl 1 (rfl))
      have kq9_7_2 := cell_regrown (show u.cell? ⟨nd16, 2, none⟩ = some (.iface 40 (.pointer (some ⟨nd19, 0, none⟩))) from hO.cell 7 rfl 2 (rfl))
      have kq9_7_3 := cell_regrown (show u.cell? ⟨nd16, 3, none⟩ = some (.int .i32 ll) from hO.cell 7 rfl 3 (rfl))
      have kq9_7_4 := cell_regrown (show u.cell? ⟨nd16, 4, none⟩ = some (.int .i32 0) from hO.cell 7 rfl 4 (rfl))
      have kq9_7_5 := cell_regrown (show u.cell? ⟨nd16, 5, none⟩ = some (.int .u8 0) from hO.cell 7 rfl 5 (rfl))
      have kq9_7_6 := cell_regrown (show u.cell? ⟨nd16, 6, none⟩ = some (.bool false) from hO.cell 7 rfl 6 (rfl))
      have kq9_7_7 := cell_regrown (show u.cell? ⟨nd16, 7, none⟩ = some (.bool false) from hO.cell 7 rfl 7 (rfl))
      have kq9_7_8 := cell_regrown (show u.cell? ⟨nd16, 8, none⟩ = some (.bool false) from hO.cell 7 rfl 8 (rfl))
      have kq9_8_0 := cell_regrown (show u.cell? ⟨nd17, 0, none⟩ = some (.iface 52 (.pointer (some ⟨nd20, 0, none⟩))) from hO.cell 8 rfl 0 (rfl))
      have kq9_8_1 := cell_regrown (show u.cell? ⟨nd17, 1, none⟩ = some (.int .i32 ll) from hO.cell 8 rfl 1 (rfl))
      have kq9_8_2 := cell_regrown (show u.cell? ⟨nd17, 2, none⟩ = some (.iface 40 (.pointer (some ⟨nd21, 0, none⟩))) from hO.cell 8 rfl 2 (rfl))
      have kq9_8_3 := cell_regrown (show u.cell? ⟨nd17, 3, none⟩ = some (.int .i32 ll) from hO.cell 8 rfl 3 (rfl))
      have kq9_8_4 := cell_regrown (show u.cell? ⟨nd17, 4, none⟩ = some (.int .i32 0) from hO.cell 8 rfl 4 (rfl))
      have kq9_8_5 := cell_regrown (show u.cell? ⟨nd17, 5, none⟩ = some (.int .u8 0) from hO.cell 8 rfl 5 (rfl))
      have kq9_8_6 := cell_regrown (show u.cell? ⟨nd17, 6, none⟩ = some (.bool false) from hO.cell 8 rfl 6 (rfl))
      have kq9_8_7 := cell_regrown (show u.cell? ⟨nd17, 7, none⟩ = some (.bool false) from hO.cell 8 rfl 7 (rfl))
      have kq9_8_8 := cell_regrown (show u.cell? ⟨nd17, 8, none⟩ = some (.bool false) from hO.cell 8 rfl 8 (rfl))
      have kq9_9_0 := cell_regrown (show u.cell? ⟨nd18, 0, none⟩ = some (.int .u32 src) from hO.cell 9 rfl 0 (rfl))
      have kq9_9_1 := cell_regrown (show u.cell? ⟨nd18, 1, none⟩ = some (.int .u32 (m : Int)) from hO.cell 9 rfl 1 (rfl))
      have kq9_9_2 := cell_regrown (show u.cell? ⟨nd18, 2, none⟩ = some (.bool false) from hO.cell 9 rfl 2 (rfl))
      have kq9_9_3 := cell_regrown (show u.cell? ⟨nd18, 3, none⟩ = some (.bool false) from hO.cell 9 rfl 3 (rfl))
      have kq9_9_4 := cell_regrown (show u.cell? ⟨nd18, 4, none⟩ = some (.bool false) from hO.cell 9 rfl 4 (rfl))
      have kq9_10_0 := cell_regrown (show u.cell? ⟨nd19, 0, none⟩ = some (.float .f64 kv) from hO.cell 10 rfl 0 (rfl))
      have kq9_11_0 := cell_regrown (show u.cell? ⟨nd20, 0, none⟩ = some (.int .u32 src) from hO.cell 11 rfl 0 (rfl))
      have kq9_11_1 := cell_regrown (show u.cell? ⟨nd20, 1, none⟩ = some (.int .u32 (m : Int)) from hO.cell 11 rfl 1 (rfl))
      have kq9_11_2 := cell_regrown (show u.cell? ⟨nd20, 2, none⟩ = some (.bool false) from hO.cell 11 rfl 2 (rfl))
      have kq9_11_3 := cell_regrown (show u.cell? ⟨nd20, 3, none⟩ = some (.bool false) from hO.cell 11 rfl 3 (rfl))
      have kq9_11_4 := cell_regrown (show u.cell? ⟨nd20, 4, none⟩ = some (.bool false) from hO.cell 11 rfl 4 (rfl))
      have kq9_12_0 := cell_regrown (show u.cell? ⟨nd21, 0, none⟩ = some (.float .f64 kv) from hO.cell 12 rfl 0 (rfl))
      have kq9_13_0 := cell_regrown (show u.cell? ⟨B11_16, 0, none⟩ = some (.float .f64 v) from hO.cell 13 rfl 0 (rfl))
      have kq9_14_0 := cell_regrown (show u.cell? ⟨B11_2, 0, none⟩ = some (.int .u32 src) from hO.cell 14 rfl 0 (rfl))
      have kq9_14_1 := cell_regrown (show u.cell? ⟨B11_2, 1, none⟩ = some (.int .u32 (m : Int)) from hO.cell 14 rfl 1 (rfl))
      have kq9_15_0 := cell_regrown (show u.cell? ⟨B11, 0, none⟩ = some (.int .u32 src) from hO.cell 15 rfl 0 (rfl))
      have kq9_15_1 := cell_regrown (show u.cell? ⟨B11, 1, none⟩ = some (.int .u32 (m : Int)) from hO.cell 15 rfl 1 (rfl))
      have pl9_7 := plain_regrown (show Base.plainAt u (nd16) = true from hO.plain 7 rfl)
      have pl9_8 := plain_regrown (show Base.plainAt u (nd17) = true from hO.plain 8 rfl)
      have pl9_9 := plain_regrown (show Base.plainAt u (nd18) = true from hO.plain 9 rfl)
      have pl9_10 := plain_regrown (show Base.plainAt u (nd19) = true from hO.plain 10 rfl)
      have pl9_11 := plain_regrown (show Base.plainAt u (nd20) = true from hO.plain 11 rfl)
      have pl9_12 := plain_regrown (show Base.plainAt u (nd21) = true from hO.plain 12 rfl)
      have ne9_7_8 : ¬ nd16 = nd17 := hO.ne 7 8 rfl rfl (by decide)
      have ne9_8_7 : ¬ nd17 = nd16 := hO.ne 8 7 rfl rfl (by decide)
      have ne9_9_11 : ¬ nd18 = nd20 := hO.ne 9 11 rfl rfl (by decide)
      have ne9_10_12 : ¬ nd19 = nd21 := hO.ne 10 12 rfl rfl (by decide)
      have ne9_11_9 : ¬ nd20 = nd18 := hO.ne 11 9 rfl rfl (by decide)
      have ne9_12_10 : ¬ nd21 = nd19 := hO.ne 12 10 rfl rfl (by decide)
      have HO := Lib.hid hO
      clear hO
      refine wp_region_quiet_below (by kernel_rfl) (by kernel_rfl) ?_
      repeat (quiet_step (first | (go_at_call 15; exact Calls.regrown_of (asIdent _ _ _)) | (go_at_call 9; exact Calls.regrown_of (asNumber _ _ _))))
      refine wpQuiet_nil ?_
      intro _ hw'
      obtain ⟨⟨dq, osq⟩, hw''⟩ := hw'
      subst hw''
      have hO := HO.out.step (below_regrown u dq osq)
      clear HO kq9_2_0 kq9_2_1 kq9_2_2 kq9_2_3 kq9_2_4 kq9_2_5 kq9_2_6 kq9_2_7 kq9_2_8 kq9_3_0 kq9_3_1 kq9_3_2 kq9_3_3 kq9_3_4 kq9_4_0 kq9_5_0 kq9_5_1 kq9_5_2 kq9_5_3 kq9_5_4 kq9_5_5 kq9_6_0 kq9_6_1 kq9_6_2 kq9_6_3 kq9_6_4 kq9_6_5 kq9_7_0 kq9_7_1 kq9_7_2 kq9_7_3 kq9_7_4 kq9_7_5 kq9_7_6 kq9_7_7 kq9_7_8 kq9_8_0 kq9_8_1 kq9_8_2 kq9_8_3 kq9_8_4 kq9_8_5 kq9_8_6 kq9_8_7 kq9_8_8 kq9_9_0 kq9_9_1 kq9_9_2 kq9_9_3 kq9_9_4 kq9_10_0 kq9_11_0 kq9_11_1 kq9_11_2 kq9_11_3 kq9_11_4 kq9_12_0 kq9_13_0 kq9_14_0 kq9_14_1 kq9_15_0 kq9_15_1 pl9_7 pl9_8 pl9_9 pl9_10 pl9_11 pl9_12 ne9_7_8 ne9_8_7 ne9_9_11 ne9_10_12 ne9_11_9 ne9_12_10
      generalize grow (redrawn u dq) osq = V26 at hO ⊢
      clear dq osq
      have hN : Own w0 V26 [row (nd2) 178 nd5, row (nd3) 196 (bumped (bumped nd6 m (0 : Nat)) m (1 : Nat)), row (B11_12) 56 #[.iface 52 (.pointer (some ⟨B11_4, 0, none⟩)), .int .i32 tl, .iface 40 (.pointer (some ⟨B11_7, 0, none⟩)), .int .i32 kl, .int .i32 0, .int .u8 0, .bool false, .bool false, .bool false], row (B11_4) 180 #[.int .u32 src, .int .u32 (m : Int), .bool false, .bool false, .bool false], row (B11_7) 182 #[.float .f64 kv], row (nd14) 45 #[.iface 38 (.pointer (some ⟨nd16, 0, none⟩)), .int .i32 ll, .iface 42 (.pointer (some ⟨nd15, 0, none⟩)), .int .i32 ll, .int .u8 30, .bool false], row (nd15) 45 #[.iface 38 (.pointer (some ⟨nd17, 0, none⟩)), .int .i32 ll, .iface 40 (.pointer (some ⟨B11_16, 0, none⟩)), .int .i32 loc, .int .u8 37, .bool false], row (nd16) 56 #[.iface 52 (.pointer (some ⟨nd18, 0, none⟩)), .int .i32 ll, .iface 40 (.pointer (some ⟨nd19, 0, none⟩)), .int .i32 ll, .int .i32 0, .int .u8 0, .bool false, .bool false, .bool false], row (nd17) 56 #[.iface 52 (.pointer (some ⟨nd20, 0, none⟩)), .int .i32 ll, .iface 40 (.pointer (some ⟨nd21, 0, none⟩)), .int .i32 ll, .int .i32 0, .int .u8 0, .bool false, .bool false, .bool false], row (nd18) 180 #[.int .u32 src, .int .u32 (m : Int), .bool false, .bool false, .bool false], row (nd19) 182 #[.float .f64 kv], row (nd20) 180 #[.int .u32 src, .int .u32 (m : Int), .bool false, .bool false, .bool false], row (nd21) 182 #[.float .f64 kv], row (B11_16) 182 #[.float .f64 v], row (B11_2) 28 #[.int .u32 src, .int .u32 (m : Int)], row (B11) 28 #[.int .u32 src, .int .u32 (m : Int)]] X := hO.sub [0, 1, 2, 3, 4, 5, 6, 7, 8, 9, 10, 11, 12, 13, 14, 15] (by decide)
      clear hO
      have hO := hN
      clear hN
      have pl9_2 : Base.plainAt V26 (B11_12) = true := hO.plain 2 rfl
      have pl9_7 : Base.plainAt V26 (nd16) = true := hO.plain 7 rfl
      have pl9_8 : Base.plainAt V26 (nd17) = true := hO.plain 8 rfl
      have pl9_9 : Base.plainAt V26 (nd18) = true := hO.plain 9 rfl
      have pl9_10 : Base.plainAt V26 (nd19) = true := hO.plain 10 rfl
      have pl9_11 : Base.plainAt V26 (nd20) = true := hO.plain 11 rfl
      have pl9_12 : Base.plainAt V26 (nd21) = true := hO.plain 12 rfl
      have ne9_2_7 : ¬ B11_12 = nd16 := hO.ne 2 7 rfl rfl (by decide)
      have ne9_2_8 : ¬ B11_12 = nd17 := hO.ne 2 8 rfl rfl (by decide)
      have ne9_7_2 : ¬ nd16 = B11_12 := hO.ne 7 2 rfl rfl (by decide)
      have ne9_7_8 : ¬ nd16 = nd17 := hO.ne 7 8 rfl rfl (by decide)
      have ne9_8_2 : ¬ nd17 = B11_12 := hO.ne 8 2 rfl rfl (by decide)
      have ne9_8_7 : ¬ nd17 = nd16 := hO.ne 8 7 rfl rfl (by decide)
      have ne9_9_11 : ¬ nd18 = nd20 := hO.ne 9 11 rfl rfl (by decide)
      have ne9_10_12 : ¬ nd19 = nd21 := hO.ne 10 12 rfl rfl (by decide)
      have ne9_11_9 : ¬ nd20 = nd18 := hO.ne 11 9 rfl rfl (by decide)
      have ne9_12_10 : ¬ nd21 = nd19 := hO.ne 12 10 rfl rfl (by decide)
      have c9_2_0 : V26.cell? ⟨B11_12, 0, none⟩ = some (.iface 52 (.pointer (some ⟨B11_4, 0, none⟩))) := hO.cell 2 rfl 0 rfl
      have c9_2_1 : V26.cell? ⟨B11_12, 1, none⟩ = some (.int .i32 tl) := hO.cell 2 rfl 1 rfl
      have c9_2_2 : V26.cell? ⟨B11_12, 2, none⟩ = some (.iface 40 (.pointer (some ⟨B11_7, 0, none⟩))) := hO.cell 2 rfl 2 rfl
      have c9_2_3 : V26.cell? ⟨B11_12, 3, none⟩ = some (.int .i32 kl) := hO.cell 2 rfl 3 rfl
      have c9_2_4 : V26.cell? ⟨B11_12, 4, none⟩ = some (.int .i32 0) := hO.cell 2 rfl 4 rfl
      have c9_2_5 : V26.cell? ⟨B11_12, 5, none⟩ = some (.int .u8 0) := hO.cell 2 rfl 5 rfl
      have c9_2_6 : V26.cell? ⟨B11_12, 6, none⟩ = some (.bool false) := hO.cell 2 rfl 6 rfl
      have c9_2_7 : V26.cell? ⟨B11_12, 7, none⟩ = some (.bool false) := hO.cell 2 rfl 7 rfl
      have c9_2_8 : V26.cell? ⟨B11_12, 8, none⟩ = some (.bool false) := hO.cell 2 rfl 8 rfl
      have lt9_2 : B11_12 < V26.heap.size := hO.lt 2 rfl
      have y9_2 : ∀ o, V26.frozen? ⟨B11_12, o, none⟩ = false := hO.free 2 rfl
      have c9_3_0 : V26.cell? ⟨B11_4, 0, none⟩ = some (.int .u32 src) := hO.cell 3 rfl 0 rfl
      have c9_3_1 : V26.cell? ⟨B11_4, 1, none⟩ = some (.int .u32 (m : Int)) := hO.cell 3 rfl 1 rfl
      have c9_3_2 : V26.cell? ⟨B11_4, 2, none⟩ = some (.bool false) := hO.cell 3 rfl 2 rfl
      have c9_3_3 : V26.cell? ⟨B11_4, 3, none⟩ = some (.bool false) := hO.cell 3 rfl 3 rfl
      have c9_3_4 : V26.cell? ⟨B11_4, 4, none⟩ = some (.bool false) := hO.cell 3 rfl 4 rfl
      have lt9_3 : B11_4 < V26.heap.size := hO.lt 3 rfl
      have y9_3 : ∀ o, V26.frozen? ⟨B11_4, o, none⟩ = false := hO.free 3 rfl
      have c9_4_0 : V26.cell? ⟨B11_7, 0, none⟩ = some (.float .f64 kv) := hO.cell 4 rfl 0 rfl
      have lt9_4 : B11_7 < V26.heap.size := hO.lt 4 rfl
      have y9_4 : ∀ o, V26.frozen? ⟨B11_7, o, none⟩ = false := hO.free 4 rfl
      have c9_5_0 : V26.cell? ⟨nd14, 0, none⟩ = some (.iface 38 (.pointer (some ⟨nd16, 0, none⟩))) := hO.cell 5 rfl 0 rfl
      have c9_5_1 : V26.cell? ⟨nd14, 1, none⟩ = some (.int .i32 ll) := hO.cell 5 rfl 1 rfl
      have c9_5_2 : V26.cell? ⟨nd14, 2, none⟩ = some (.iface 42 (.pointer (some ⟨nd15, 0, none⟩))) := hO.cell 5 rfl 2 rfl
      have c9_5_3 : V26.cell? ⟨nd14, 3, none⟩ = some (.int .i32 ll) := hO.cell 5 rfl 3 rfl
      have c9_5_4 : V26.cell? ⟨nd14, 4, none⟩ = some (.int .u8 30) := hO.cell 5 rfl 4 rfl
      have c9_5_5 : V26.cell? ⟨nd14, 5, none⟩ = some (.bool false) := hO.cell 5 rfl 5 rfl
      have lt9_5 : nd14 < V26.heap.size := hO.lt 5 rfl
      have y9_5 : ∀ o, V26.frozen? ⟨nd14, o, none⟩ = false := hO.free 5 rfl
      have c9_6_0 : V26.cell? ⟨nd15, 0, none⟩ = some (.iface 38 (.pointer (some ⟨nd17, 0, none⟩))) := hO.cell 6 rfl 0 rfl
      have c9_6_1 : V26.cell? ⟨nd15, 1, none⟩ = some (.int .i32 ll) := hO.cell 6 rfl 1 rfl
      have c9_6_2 : V26.cell? ⟨nd15, 2, none⟩ = some (.iface 40 (.pointer (some ⟨B11_16, 0, none⟩))) := hO.cell 6 rfl 2 rfl
      have c9_6_3 : V26.cell? ⟨nd15, 3, none⟩ = some (.int .i32 loc) := hO.cell 6 rfl 3 rfl
      have c9_6_4 : V26.cell? ⟨nd15, 4, none⟩ = some (.int .u8 37) := hO.cell 6 rfl 4 rfl
      have c9_6_5 : V26.cell? ⟨nd15, 5, none⟩ = some (.bool false) := hO.cell 6 rfl 5 rfl
      have lt9_6 : nd15 < V26.heap.size := hO.lt 6 rfl
      have y9_6 : ∀ o, V26.frozen? ⟨nd15, o, none⟩ = false := hO.free 6 rfl
      have c9_7_0 : V26.cell? ⟨nd16, 0, none⟩ = some (.iface 52 (.pointer (some ⟨nd18, 0, none⟩))) := hO.cell 7 rfl 0 rfl
      have c9_7_1 : V26.cell? ⟨nd16, 1, none⟩ = some (.int .i32 ll) := hO.cell 7 rfl 1 rfl
      have c9_7_2 : V26.cell? ⟨nd16, 2, none⟩ = some (.iface 40 (.pointer (some ⟨nd19, 0, none⟩))) := hO.cell 7 rfl 2 rfl
      have c9_7_3 : V26.cell? ⟨nd16, 3, none⟩ = some (.int .i32 ll) := hO.cell 7 rfl 3 rfl
      have c9_7_4 : V26.cell? ⟨nd16, 4, none⟩ = some (.int .i32 0) := hO.cell 7 rfl 4 rfl
      have c9_7_5 : V26.cell? ⟨nd16, 5, none⟩ = some (.int .u8 0) := hO.cell 7 rfl 5 rfl
      have c9_7_6 : V26.cell? ⟨nd16, 6, none⟩ = some (.bool false) := hO.cell 7 rfl 6 rfl
      have c9_7_7 : V26.cell? ⟨nd16, 7, none⟩ = some (.bool false) := hO.cell 7 rfl 7 rfl
      have c9_7_8 : V26.cell? ⟨nd16, 8, none⟩ = some (.bool false) := hO.cell 7 rfl 8 rfl
      have lt9_7 : nd16 < V26.heap.size := hO.lt 7 rfl
      have y9_7 : ∀ o, V26.frozen? ⟨nd16, o, none⟩ = false := hO.free 7 rfl
      have c9_8_0 : V26.cell? ⟨nd17, 0, none⟩ = some (.iface 52 (.pointer (some ⟨nd20, 0, none⟩))) := hO.cell 8 rfl 0 rfl
      have c9_8_1 : V26.cell? ⟨nd17, 1, none⟩ = some (.int .i32 ll) := hO.cell 8 rfl 1 rfl
      have c9_8_2 : V26.cell? ⟨nd17, 2, none⟩ = some (.iface 40 (.pointer (some ⟨nd21, 0, none⟩))) := hO.cell 8 rfl 2 rfl
      have c9_8_3 : V26.cell? ⟨nd17, 3, none⟩ = some (.int .i32 ll) := hO.cell 8 rfl 3 rfl
      have c9_8_4 : V26.cell? ⟨nd17, 4, none⟩ = some (.int .i32 0) := hO.cell 8 rfl 4 rfl
      have c9_8_5 : V26.cell? ⟨nd17, 5, none⟩ = some (.int .u8 0) := hO.cell 8 rfl 5 rfl
      have c9_8_6 : V26.cell? ⟨nd17, 6, none⟩ = some (.bool false) := hO.cell 8 rfl 6 rfl
      have c9_8_7 : V26.cell? ⟨nd17, 7, none⟩ = some (.bool false) := hO.cell 8 rfl 7 rfl
      have c9_8_8 : V26.cell? ⟨nd17, 8, none⟩ = some (.bool false) := hO.cell 8 rfl 8 rfl
      have lt9_8 : nd17 < V26.heap.size := hO.lt 8 rfl
      have y9_8 : ∀ o, V26.frozen? ⟨nd17, o, none⟩ = false := hO.free 8 rfl
      have c9_9_0 : V26.cell? ⟨nd18, 0, none⟩ = some (.int .u32 src) := hO.cell 9 rfl 0 rfl
      have c9_9_1 : V26.cell? ⟨nd18, 1, none⟩ = some (.int .u32 (m : Int)) := hO.cell 9 rfl 1 rfl
      have c9_9_2 : V26.cell? ⟨nd18, 2, none⟩ = some (.bool false) := hO.cell 9 rfl 2 rfl
      have c9_9_3 : V26.cell? ⟨nd18, 3, none⟩ = some (.bool false) := hO.cell 9 rfl 3 rfl
      have c9_9_4 : V26.cell? ⟨nd18, 4, none⟩ = some (.bool false) := hO.cell 9 rfl 4 rfl
      have lt9_9 : nd18 < V26.heap.size := hO.lt 9 rfl
      have y9_9 : ∀ o, V26.frozen? ⟨nd18, o, none⟩ = false := hO.free 9 rfl
      have c9_10_0 : V26.cell? ⟨nd19, 0, none⟩ = some (.float .f64 kv) := hO.cell 10 rfl 0 rfl
      have lt9_10 : nd19 < V26.heap.size := hO.lt 10 rfl
      have y9_10 : ∀ o, V26.frozen? ⟨nd19, o, none⟩ = false := hO.free 10 rfl
      have c9_11_0 : V26.cell? ⟨nd20, 0, none⟩ = some (.int .u32 src) := hO.cell 11 rfl 0 rfl
      have c9_11_1 : V26.cell? ⟨nd20, 1, none⟩ = some (.int .u32 (m : Int)) := hO.cell 11 rfl 1 rfl
      have c9_11_2 : V26.cell? ⟨nd20, 2, none⟩ = some (.bool false) := hO.cell 11 rfl 2 rfl
      have c9_11_3 : V26.cell? ⟨nd20, 3, none⟩ = some (.bool false) := hO.cell 11 rfl 3 rfl
      have c9_11_4 : V26.cell? ⟨nd20, 4, none⟩ = some (.bool false) := hO.cell 11 rfl 4 rfl
      have lt9_11 : nd20 < V26.heap.size := hO.lt 11 rfl
      have y9_11 : ∀ o, V26.frozen? ⟨nd20, o, none⟩ = false := hO.free 11 rfl
      have c9_12_0 : V26.cell? ⟨nd21, 0, none⟩ = some (.float .f64 kv) := hO.cell 12 rfl 0 rfl
      have lt9_12 : nd21 < V26.heap.size := hO.lt 12 rfl
      have y9_12 : ∀ o, V26.frozen? ⟨nd21, o, none⟩ = false := hO.free 12 rfl
      have c9_13_0 : V26.cell? ⟨B11_16, 0, none⟩ = some (.float .f64 v) := hO.cell 13 rfl 0 rfl
      have lt9_13 : B11_16 < V26.heap.size := hO.lt 13 rfl
      have y9_13 : ∀ o, V26.frozen? ⟨B11_16, o, none⟩ = false := hO.free 13 rfl
      have c9_14_0 : V26.cell? ⟨B11_2, 0, none⟩ = some (.int .u32 src) := hO.cell 14 rfl 0 rfl
      have c9_14_1 : V26.cell? ⟨B11_2, 1, none⟩ = some (.int .u32 (m : Int)) := hO.cell 14 rfl 1 rfl
      have lt9_14 : B11_2 < V26.heap.size := hO.lt 14 rfl
      have y9_14 : ∀ o, V26.frozen? ⟨B11_2, o, none⟩ = false := hO.free 14 rfl
      have c9_15_0 : V26.cell? ⟨B11, 0, none⟩ = some (.int .u32 src) := hO.cell 15 rfl 0 rfl
      have c9_15_1 : V26.cell? ⟨B11, 1, none⟩ = some (.int .u32 (m : Int)) := hO.cell 15 rfl 1 rfl
      have lt9_15 : B11 < V26.heap.size := hO.lt 15 rfl
      have y9_15 : ∀ o, V26.frozen? ⟨B11, o, none⟩ = false := hO.free 15 rfl
      have HO := Lib.hid hO
      clear hO
      go_wp2_with (first | (go_at_call 6; go_in) | (go_at_call 7; go_in) | (go_at_call 5; go_in) | (go_at_call 8; go_in) | (go_at_call 9; go_in) | (go_at_call 13; go_in) | (go_at_call 15; go_in) | (go_at_call 11; go_in))
      have hO := HO.out
      clear HO pl9_2 pl9_7 pl9_8 pl9_9 pl9_10 pl9_11 pl9_12 ne9_2_7 ne9_2_8 ne9_7_2 ne9_7_8 ne9_8_2 ne9_8_7 ne9_9_11 ne9_10_12 ne9_11_9 ne9_12_10 c9_2_0 c9_2_1 c9_2_2 c9_2_3 c9_2_4 c9_2_5 c9_2_6 c9_2_7 c9_2_8 lt9_2 y9_2 c9_3_0 c9_3_1 c9_3_2 c9_3_3 c9_3_4 lt9_3 y9_3 c9_4_0 lt9_4 y9_4 c9_5_0 c9_5_1 c9_5_2 c9_5_3 c9_5_4 c9_5_5 lt9_5 y9_5 c9_6_0 c9_6_1 c9_6_2 c9_6_3 c9_6_4 c9_6_5 lt9_6 y9_6 c9_7_0 c9_7_1 c9_7_2 c9_7_3 c9_7_4 c9_7_5 c9_7_6 c9_7_7 c9_7_8 lt9_7 y9_7 c9_8_0 c9_8_1 c9_8_2 c9_8_3 c9_8_4 c9_8_5 c9_8_6 c9_8_7 c9_8_8 lt9_8 y9_8 c9_9_0 c9_9_1 c9_9_2 c9_9_3 c9_9_4 lt9_9 y9_9 c9_10_0 lt9_10 y9_10 c9_11_0 c9_11_1 c9_11_2 c9_11_3 c9_11_4 lt9_11 y9_11 c9_12_0 lt9_12 y9_12 c9_13_0 lt9_13 y9_13 c9_14_0 c9_14_1 lt9_14 y9_14 c9_15_0 c9_15_1 lt9_15 y9_15
      generalize hW : World.alloc _ _ = W28
      have hN : Own w0 W28 [row (V26.heap.size) 34 #[.iface 40 (.pointer (some ⟨B11_16, 0, none⟩)), .int .i32 loc], row (nd2) 178 nd5, row (nd3) 196 (bumped (bumped nd6 m (0 : Nat)) m (1 : Nat)), row (B11_12) 56 #[.iface 52 (.pointer (some ⟨B11_4, 0, none⟩)), .int .i32 tl, .iface 40 (.pointer (some ⟨B11_7, 0, none⟩)), .int .i32 kl, .int .i32 0, .int .u8 0, .bool false, .bool false, .bool false], row (B11_4) 180 #[.int .u32 src, .int .u32 (m : Int), .bool false, .bool false, .bool false], row (B11_7) 182 #[.float .f64 kv], row (nd14) 45 #[.iface 38 (.pointer (some ⟨nd16, 0, none⟩)), .int .i32 ll, .iface 42 (.pointer (some ⟨nd15, 0, none⟩)), .int .i32 ll, .int .u8 30, .bool false], row (nd15) 45 #[.iface 38 (.pointer (some ⟨nd17, 0, none⟩)), .int .i32 ll, .iface 40 (.pointer (some ⟨B11_16, 0, none⟩)), .int .i32 loc, .int .u8 37, .bool false], row (nd16) 56 #[.iface 52 (.pointer (some ⟨nd18, 0, none⟩)), .int .i32 ll, .iface 40 (.pointer (some ⟨nd19, 0, none⟩)), .int .i32 ll, .int .i32 0, .int .u8 0, .bool false, .bool false, .bool false], row (nd17) 56 #[.iface 52 (.pointer (some ⟨nd20, 0, none⟩)), .int .i32 ll, .iface 40 (.pointer (some ⟨nd21, 0, none⟩)), .int .i32 ll, .int .i32 0, .int .u8 0, .bool false, .bool false, .bool false], row (nd18) 180 #[.int .u32 src, .int .u32 (m : Int), .bool false, .bool false, .bool false], row (nd19) 182 #[.float .f64 kv], row (nd20) 180 #[.int .u32 src, .int .u32 (m : Int), .bool false, .bool false, .bool false], row (nd21) 182 #[.float .f64 kv], row (B11_16) 182 #[.float .f64 v], row (B11_2) 28 #[.int .u32 src, .int .u32 (m : Int)], row (B11) 28 #[.int .u32 src, .int .u32 (m : Int)]] X := by
        rw [← hW]
        exact (hO).alloc' _ (V26.heap.size) (by simp)
      clear hW hO
      generalize V26.heap.size = B27 at hN ⊢
      have hO := hN
      clear hN
      have hN : Own w0 W28 [row (nd2) 178 nd5, row (nd3) 196 (bumped (bumped nd6 m (0 : Nat)) m (1 : Nat))] X := hO.sub [1, 2] (by decide)
      clear hO
      have hO := hN
      clear hN
      have hL := hO.apart
      have hX := hO.apartX
      have HL := Lib.hid hL
      have HX := Lib.hid hX
      clear hL hX
      have hP9 := hO.pick [0, 1] (by decide)
      have h9_hn : (m + 1 : Nat) ≤ 65537 := (by omega)
      have h9_hi : m < (m + 1 : Nat) := (by omega)
      have h9_ht : (((bump (bump (fun _ => 0) m) m) m : Nat) : Int) = 2 := (by rw [two_e]; rfl)
      have T9 := useCountO nd2 nd3 (m + 1 : Nat) nd5 (bumped (bumped nd6 m (0 : Nat)) m (1 : Nat)) (bump (bump (fun _ => 0) m) m) m 2 _ _ _ hP9 pr7 h9_hn h9_hi HC2.out h9_ht
      refine Calls.mono T9 ?_
      clear hP9 T9 h9_hn h9_hi h9_ht
      rintro e u29 ⟨rfl, hQ⟩
      have hN : Own w0 u29 [row (nd2) 178 nd5, row (nd3) 196 (bumped (bumped nd6 m (0 : Nat)) m (1 : Nat))] X := hQ.back HL.out HX.out [] (by decide) (by decide)
      clear hQ HL HX hO
      have hO := hN
      clear hN
      go_wp2_with fail
      rw [show ((m : Int) + 1) = ((m + 1 : Nat) : Int) from rfl]
      have hL := hO.apart
      have hX := hO.apartX
      have HL := Lib.hid hL
      have HX := Lib.hid hX
      clear hL hX
      have hP9 := hO.pick [0, 1] (by decide)
      have h9_hn : (m + 1 : Nat) ≤ 65537 := (by omega)
      have h9_hu : ∀ i, i < (m + 1 : Nat) → (bump (bump (fun _ => 0) m) m) i ≤ 4294967295 := (le2 _ _ _)
      have h9_ht : ((l131.sumTo (bump (bump (fun _ => 0) m) m) (m + 1 : Nat) : Nat) : Int) = 2 := (by rw [sum2 (by omega) (by omega)]; rfl)
      have T9 := totalO nd2 nd3 (m + 1 : Nat) nd5 (bumped (bumped nd6 m (0 : Nat)) m (1 : Nat)) (bump (bump (fun _ => 0) m) m) 2 _ _ _ hP9 pr7 h9_hn HC2.out h9_hu h9_ht
      refine Calls.mono T9 ?_
      clear hP9 T9 h9_hn h9_hu h9_ht
      rintro e u30 ⟨rfl, hQ⟩
      have hN : Own w0 u30 [row (nd2) 178 nd5, row (nd3) 196 (bumped (bumped nd6 m (0 : Nat)) m (1 : Nat))] X := hQ.back HL.out HX.out [] (by decide) (by decide)
      clear hQ HL HX hO
      have hO := hN
      clear hN
      go_wp2_with fail
      refine bodyPost_ret (v := .bool true) ?_ rfl ⟨rfl, hO.sub [] (by decide)⟩
      simp [results, Tryz.results3, go_sem]
end Go.Proofs.YtlgefnjkoklboaaGreatDoor.Use
