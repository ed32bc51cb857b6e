/- The law on an exponent's assignment to obj.name, walked: one of three cases. No condition. -/
import Derived.Test.YtlgefnjkoklboaaDoorOwn
import Derived.Test.YtlgefnjkoklboaaDoorDeepCells
import Derived.Test.YtlgefnjkoklboaaDoorRows
import Derived.Test.YtlgefnjkoklboaaDoorUse
import Derived.Test.YtlgefnjkoklboaaDoorPow
import Derived.Test.YtlgefnjkoklboaaDoorPowFn
import Derived.Test.YtlgefnjkoklboaaDoorLowExp
import Derived.Test.YtlgefnjkoklboaaDoorNew
import Derived.Test.YtlgefnjkoklboaaDoorLaws
import Derived.Test.YtlgefnjkoklboaaDoorHelp
import Derived.Test.YtlgefnjkoklboaaDoorLawKit
import Derived.Test.YtlgefnjkoklboaaDoorLowDot
import Derived.Test.YtlgefnjkoklboaaDoorLawKitD
namespace Go.Proofs.YtlgefnjkoklboaaDoor.Use
open Go.ChangeShapes Go.WideShapes Go.ChangeAt Go.RowKit Go.Sort Own
set_option linter.unusedVariables false
def rD1gtE (src : Int) (m : Nat) (k : Nat) (tl : Int) (ll : Int) (nl : Int) (loc : Int) (nm : ByteArray) (v : Nat) (B2 : Nat) (nd5 : Nat) (nd6 : Nat) (nd8 : Array Value) (nd9 : Array Value) (B14_13 : Nat) (B14_9 : Nat) (B14_4 : Nat) (B14_2 : Nat) (B14 : Nat) (nd17 : Nat) (nd18 : Nat) (nd19 : Nat) (nd20 : Nat) (nd21 : Nat) (nd22 : Nat) (nd23 : Nat) (nd24 : Nat) (B25_1 : Nat) (B25 : Nat) : Nat → Rega.Atoms → Value
  | 0, α => .pointer (some ⟨nd17, 0, none⟩)
  | 1, α => .pointer (some ⟨nd17, 0, none⟩)
  | 2, α => .pointer (some ⟨nd17, 0, none⟩)
  | 3, α => .agg #[.iface 81 (.pointer (some ⟨nd21, 0, none⟩)), .int .i32 ll]
  | 4, α => .int .i32 ll
  | 5, α => .agg #[.int .u32 src, .int .u32 (m : Int)]
  | 6, α => .string nm
  | 7, α => .int .i32 nl
  | 8, α => .pointer (some ⟨B14_9, 0, none⟩)
  | 9, α => .pointer (some ⟨nd21, 0, none⟩)
  | 10, α => .pointer (some ⟨nd21, 0, none⟩)
  | _, _ => undef
def rD1gtAnc : Nat → List Nat
  | 1 => [0]
  | 2 => [0, 1]
  | 3 => [0, 1, 2]
  | 9 => [0, 1, 2, 3, 4, 5, 6, 7, 8]
  | 10 => [0, 1, 2, 3, 4, 5, 6, 7, 8, 9]
  | _ => []
def rD1gtTrn : Nat → List Nat
  | _ => []
def rD1gtCnt : List (Nat × Nat) := []
def rD1gtR (src : Int) (m : Nat) (k : Nat) (tl : Int) (ll : Int) (nl : Int) (loc : Int) (nm : ByteArray) (v : Nat) (B2 : Nat) (nd5 : Nat) (nd6 : Nat) (nd8 : Array Value) (nd9 : Array Value) (B14_13 : Nat) (B14_9 : Nat) (B14_4 : Nat) (B14_2 : Nat) (B14 : Nat) (nd17 : Nat) (nd18 : Nat) (nd19 : Nat) (nd20 : Nat) (nd21 : Nat) (nd22 : Nat) (nd23 : Nat) (nd24 : Nat) (B25_1 : Nat) (B25 : Nat) (L9 : Nat → Bool) (α : Rega.Atoms) (ix9 : Nat) : Rw := if ix9 = 999 then row (B25_1) 34 #[.iface 41 (.pointer (some ⟨nd17, 0, none⟩)), .int .i32 ll] else if ix9 = 1999 then row (B25) 34 #[.iface 41 (.pointer (some ⟨nd17, 0, none⟩)), .int .i32 ll] else if ix9 = 2999 then row (nd5) 207 nd8 else if ix9 = 3999 then row (nd6) 223 (bumped (bumped (bumped nd9 m (0 : Nat)) m (1 : Nat)) k (0 : Nat)) else if ix9 = 4999 then row (B14_9) 85 #[.iface 55 (.pointer (some ⟨B14_4, 0, none⟩)), .int .i32 tl, .string nm, .int .i32 nl, .int .u8 0, .bool false, .bool false, .bool false] else if ix9 = 5999 then row (B14_4) 214 #[.int .u32 src, .int .u32 (m : Int), .bool false, .bool false, .bool false] else if ix9 = 6999 then row (nd17) 47 #[.iface 81 (.pointer (some ⟨nd21, 0, none⟩)), .int .i32 ll, .iface 72 (.pointer (some ⟨nd18, 0, none⟩)), .int .i32 loc, .int .u8 37, .bool false] else if ix9 = 7999 then row (nd18) 77 #[.iface 55 (.pointer (some ⟨nd19, 0, none⟩)), .int .i32 loc, .slice (some ⟨nd20, 0, none⟩) 2 2, .int .i32 0, .int .u8 0, .int .u8 0, .bool false, .bool false] else if ix9 = 8999 then row (nd19) 214 #[.int .u32 0, .int .u32 (k : Int), .bool false, .bool false, .bool false] else if ix9 = 9999 then row (nd20) 34 #[.iface 81 (.pointer (some ⟨nd22, 0, none⟩)), .int .i32 ll, .iface 36 (.pointer (some ⟨B14_13, 0, none⟩)), .int .i32 loc] else if ix9 = 10999 then row (nd21) 85 #[.iface 55 (.pointer (some ⟨nd23, 0, none⟩)), .int .i32 ll, .string nm, .int .i32 nl, .int .u8 0, .bool false, .bool false, .bool false] else if ix9 = 11999 then row (nd22) 85 #[.iface 55 (.pointer (some ⟨nd24, 0, none⟩)), .int .i32 ll, .string nm, .int .i32 nl, .int .u8 0, .bool false, .bool false, .bool false] else if ix9 = 12999 then row (nd23) 214 #[.int .u32 src, .int .u32 (m : Int), .bool false, .bool false, .bool false] else if ix9 = 13999 then row (nd24) 214 #[.int .u32 src, .int .u32 (m : Int), .bool false, .bool false, .bool false] else if ix9 = 14999 then row (B14_13) 50 #[.float .f64 v] else if ix9 = 15999 then row (B14_2) 28 #[.int .u32 src, .int .u32 (m : Int)] else if ix9 = 16999 then row (B14) 28 #[.int .u32 src, .int .u32 (m : Int)] else if ix9 = 17999 then row (B2) 28 #[.int .u32 0, .int .u32 (k : Int)] else (0, .map #[] 0)
theorem rD1gt_he (src : Int) (m : Nat) (k : Nat) (tl : Int) (ll : Int) (nl : Int) (loc : Int) (nm : ByteArray) (v : Nat) (B2 : Nat) (nd5 : Nat) (nd6 : Nat) (nd8 : Array Value) (nd9 : Array Value) (B14_13 : Nat) (B14_9 : Nat) (B14_4 : Nat) (B14_2 : Nat) (B14 : Nat) (nd17 : Nat) (nd18 : Nat) (nd19 : Nat) (nd20 : Nat) (nd21 : Nat) (nd22 : Nat) (nd23 : Nat) (nd24 : Nat) (B25_1 : Nat) (B25 : Nat) : ∀ kk α α', (∀ j, (j % 1000 = kk ∨ j % 1000 ∈ rD1gtAnc kk) → α j = α' j) → rD1gtE src m k tl ll nl loc nm v B2 nd5 nd6 nd8 nd9 B14_13 B14_9 B14_4 B14_2 B14 nd17 nd18 nd19 nd20 nd21 nd22 nd23 nd24 B25_1 B25 kk α = rD1gtE src m k tl ll nl loc nm v B2 nd5 nd6 nd8 nd9 B14_13 B14_9 B14_4 B14_2 B14 nd17 nd18 nd19 nd20 nd21 nd22 nd23 nd24 B25_1 B25 kk α' := by
  intro kk α α' h
  match kk with
  | 0 => rfl
  | 1 => rfl
  | 2 => rfl
  | 3 => rfl
  | 4 => rfl
  | 5 => rfl
  | 6 => rfl
  | 7 => rfl
  | 8 => rfl
  | 9 => rfl
  | 10 => rfl
  | n + 11 => rfl
theorem rD1gt_st (src : Int) (m : Nat) (k : Nat) (tl : Int) (ll : Int) (nl : Int) (loc : Int) (nm : ByteArray) (v : Nat) (B2 : Nat) (nd5 : Nat) (nd6 : Nat) (nd8 : Array Value) (nd9 : Array Value) (B14_13 : Nat) (B14_9 : Nat) (B14_4 : Nat) (B14_2 : Nat) (B14 : Nat) (nd17 : Nat) (nd18 : Nat) (nd19 : Nat) (nd20 : Nat) (nd21 : Nat) (nd22 : Nat) (nd23 : Nat) (nd24 : Nat) (B25_1 : Nat) (B25 : Nat) : Stable rD1gtCnt 18 rD1gtAnc rD1gtTrn (rD1gtR src m k tl ll nl loc nm v B2 nd5 nd6 nd8 nd9 B14_13 B14_9 B14_4 B14_2 B14 nd17 nd18 nd19 nd20 nd21 nd22 nd23 nd24 B25_1 B25) := by
  intro k9 L9 α α' ix9 hk hcl hα hact ht
  have hp := act_places hact
  replace hp : ix9 ∈ [999, 1999, 2999, 3999, 4999, 5999, 6999, 7999, 8999, 9999, 10999, 11999, 12999, 13999, 14999, 15999, 16999, 17999] := hp
  simp only [List.mem_cons, List.not_mem_nil, or_false] at hp
  rcases hp with rfl | rfl | rfl | rfl | rfl | rfl | rfl | rfl | rfl | rfl | rfl | rfl | rfl | rfl | rfl | rfl | rfl | rfl
  · rfl
  · rfl
  · rfl
  · rfl
  · rfl
  · rfl
  · rfl
  · rfl
  · rfl
  · rfl
  · rfl
  · rfl
  · rfl
  · rfl
  · rfl
  · rfl
  · rfl
  · rfl
def rD3gtE (src : Int) (m : Nat) (k : Nat) (tl : Int) (ll : Int) (nl : Int) (loc : Int) (nm : ByteArray) (v : Nat) (B2 : Nat) (nd5 : Nat) (nd6 : Nat) (nd8 : Array Value) (nd9 : Array Value) (B14_13 : Nat) (B14_9 : Nat) (B14_4 : Nat) (B14_2 : Nat) (B14 : Nat) (nd17 : Nat) (nd18 : Nat) (nd19 : Nat) (nd20 : Nat) (nd21 : Nat) (nd22 : Nat) (nd23 : Nat) (nd24 : Nat) : Nat → Rega.Atoms → Value
  | 0, α => .pointer (some ⟨nd18, 0, none⟩)
  | 1, α => .pointer (some ⟨nd18, 0, none⟩)
  | 2, α => .pointer (some ⟨nd18, 2, none⟩)
  | 3, α => .slice (some ⟨nd20, 0, none⟩) 2 2
  | 4, α => .pointer (some ⟨nd20, 0, none⟩)
  | 5, α => .agg #[.iface 81 (.pointer (some ⟨nd22, 0, none⟩)), .int .i32 ll]
  | 6, α => .int .i32 ll
  | 7, α => .agg #[.int .u32 src, .int .u32 (m : Int)]
  | 8, α => .string nm
  | 9, α => .int .i32 nl
  | 10, α => .pointer (some ⟨B14_9, 0, none⟩)
  | 11, α => .pointer (some ⟨nd22, 0, none⟩)
  | 12, α => .pointer (some ⟨nd22, 0, none⟩)
  | _, _ => undef
def rD3gtAnc : Nat → List Nat
  | 1 => [0]
  | 2 => [0, 1]
  | 3 => [0, 1, 2]
  | 4 => [0, 1, 2, 3]
  | 5 => [0, 1, 2, 3, 4]
  | 11 => [0, 1, 2, 3, 4, 5, 6, 7, 8, 9, 10]
  | 12 => [0, 1, 2, 3, 4, 5, 6, 7, 8, 9, 10, 11]
  | _ => []
def rD3gtTrn : Nat → List Nat
  | _ => []
def rD3gtCnt : List (Nat × Nat) := []
def rD3gtR (src : Int) (m : Nat) (k : Nat) (tl : Int) (ll : Int) (nl : Int) (loc : Int) (nm : ByteArray) (v : Nat) (B2 : Nat) (nd5 : Nat) (nd6 : Nat) (nd8 : Array Value) (nd9 : Array Value) (B14_13 : Nat) (B14_9 : Nat) (B14_4 : Nat) (B14_2 : Nat) (B14 : Nat) (nd17 : Nat) (nd18 : Nat) (nd19 : Nat) (nd20 : Nat) (nd21 : Nat) (nd22 : Nat) (nd23 : Nat) (nd24 : Nat) (L9 : Nat → Bool) (α : Rega.Atoms) (ix9 : Nat) : Rw := if ix9 = 999 then row (nd5) 207 nd8 else if ix9 = 1999 then row (nd6) 223 (bumped (bumped (bumped nd9 m (0 : Nat)) m (1 : Nat)) k (0 : Nat)) else if ix9 = 2999 then row (B14_9) 85 #[.iface 55 (.pointer (some ⟨B14_4, 0, none⟩)), .int .i32 tl, .string nm, .int .i32 nl, .int .u8 0, .bool false, .bool false, .bool false] else if ix9 = 3999 then row (B14_4) 214 #[.int .u32 src, .int .u32 (m : Int), .bool false, .bool false, .bool false] else if ix9 = 4999 then row (nd17) 47 #[.iface 81 (.pointer (some ⟨nd21, 0, none⟩)), .int .i32 ll, .iface 72 (.pointer (some ⟨nd18, 0, none⟩)), .int .i32 loc, .int .u8 37, .bool false] else if ix9 = 5999 then row (nd18) 77 #[.iface 55 (.pointer (some ⟨nd19, 0, none⟩)), .int .i32 loc, .slice (some ⟨nd20, 0, none⟩) 2 2, .int .i32 0, .int .u8 0, .int .u8 0, .bool false, .bool false] else if ix9 = 6999 then row (nd19) 214 #[.int .u32 0, .int .u32 (k : Int), .bool false, .bool false, .bool false] else if ix9 = 7999 then row (nd20) 34 #[.iface 81 (.pointer (some ⟨nd22, 0, none⟩)), .int .i32 ll, .iface 36 (.pointer (some ⟨B14_13, 0, none⟩)), .int .i32 loc] else if ix9 = 8999 then row (nd21) 85 #[.iface 55 (.pointer (some ⟨nd23, 0, none⟩)), .int .i32 ll, .string nm, .int .i32 nl, .int .u8 0, .bool false, .bool false, .bool false] else if ix9 = 9999 then row (nd22) 85 #[.iface 55 (.pointer (some ⟨nd24, 0, none⟩)), .int .i32 ll, .string nm, .int .i32 nl, .int .u8 0, .bool false, .bool false, .bool false] else if ix9 = 10999 then row (nd23) 214 #[.int .u32 src, .int .u32 (m : Int), .bool false, .bool false, .bool false] else if ix9 = 11999 then row (nd24) 214 #[.int .u32 src, .int .u32 (m : Int), .bool false, .bool false, .bool false] else if ix9 = 12999 then row (B14_13) 50 #[.float .f64 v] else if ix9 = 13999 then row (B14_2) 28 #[.int .u32 src, .int .u32 (m : Int)] else if ix9 = 14999 then row (B14) 28 #[.int .u32 src, .int .u32 (m : Int)] else if ix9 = 15999 then row (B2) 28 #[.int .u32 0, .int .u32 (k : Int)] else (0, .map #[] 0)
theorem rD3gt_he (src : Int) (m : Nat) (k : Nat) (tl : Int) (ll : Int) (nl : Int) (loc : Int) (nm : ByteArray) (v : Nat) (B2 : Nat) (nd5 : Nat) (nd6 : Nat) (nd8 : Array Value) (nd9 : Array Value) (B14_13 : Nat) (B14_9 : Nat) (B14_4 : Nat) (B14_2 : Nat) (B14 : Nat) (nd17 : Nat) (nd18 : Nat) (nd19 : Nat) (nd20 : Nat) (nd21 : Nat) (nd22 : Nat) (nd23 : Nat) (nd24 : Nat) : ∀ kk α α', (∀ j, (j % 1000 = kk ∨ j % 1000 ∈ rD3gtAnc kk) → α j = α' j) → rD3gtE src m k tl ll nl loc nm v B2 nd5 nd6 nd8 nd9 B14_13 B14_9 B14_4 B14_2 B14 nd17 nd18 nd19 nd20 nd21 nd22 nd23 nd24 kk α = rD3gtE src m k tl ll nl loc nm v B2 nd5 nd6 nd8 nd9 B14_13 B14_9 B14_4 B14_2 B14 nd17 nd18 nd19 nd20 nd21 nd22 nd23 nd24 kk α' := by
  intro kk α α' h
  match kk with
  | 0 => rfl
  | 1 => rfl
  | 2 => rfl
  | 3 => rfl
  | 4 => rfl
  | 5 => rfl
  | 6 => rfl
  | 7 => rfl
  | 8 => rfl
  | 9 => rfl
  | 10 => rfl
  | 11 => rfl
  | 12 => rfl
  | n + 13 => rfl
theorem rD3gt_st (src : Int) (m : Nat) (k : Nat) (tl : Int) (ll : Int) (nl : Int) (loc : Int) (nm : ByteArray) (v : Nat) (B2 : Nat) (nd5 : Nat) (nd6 : Nat) (nd8 : Array Value) (nd9 : Array Value) (B14_13 : Nat) (B14_9 : Nat) (B14_4 : Nat) (B14_2 : Nat) (B14 : Nat) (nd17 : Nat) (nd18 : Nat) (nd19 : Nat) (nd20 : Nat) (nd21 : Nat) (nd22 : Nat) (nd23 : Nat) (nd24 : Nat) : Stable rD3gtCnt 16 rD3gtAnc rD3gtTrn (rD3gtR src m k tl ll nl loc nm v B2 nd5 nd6 nd8 nd9 B14_13 B14_9 B14_4 B14_2 B14 nd17 nd18 nd19 nd20 nd21 nd22 nd23 nd24) := by
  intro k9 L9 α α' ix9 hk hcl hα hact ht
  have hp := act_places hact
  replace hp : ix9 ∈ [999, 1999, 2999, 3999, 4999, 5999, 6999, 7999, 8999, 9999, 10999, 11999, 12999, 13999, 14999, 15999] := hp
  simp only [List.mem_cons, List.not_mem_nil, or_false] at hp
  rcases hp with rfl | rfl | rfl | rfl | rfl | rfl | rfl | rfl | rfl | rfl | rfl | rfl | rfl | rfl | rfl | rfl
  · rfl
  · rfl
  · rfl
  · rfl
  · rfl
  · rfl
  · rfl
  · rfl
  · rfl
  · rfl
  · rfl
  · rfl
  · rfl
  · rfl
  · rfl
  · rfl
def law30gtPost (x src : Int) (m k : Nat) (tl ll nl loc : Int) (nm : ByteArray) (v : Nat) (w0 : World) (X : Nat → Obj → Prop) (e : Ending) (w' : World) : Prop :=
  e = .returned (.bool true) ∧ Own w0 w' [] X
set_option maxRecDepth 100000 in
set_option maxHeartbeats 1000000 in
theorem law30gt (x src : Int) (m k : Nat) (tl ll nl loc : Int) (nm : ByteArray) (v : Nat) (w0 w : World) (X : Nat → Obj → Prop) (hO : Own w0 w [] X) (hlen : nm.size ≤ 1048576) (hm : m ≤ 65536) (hk : k ≤ 65536) (hmk : k < m) :
    Calls Tryd.prog 8 #[.int .u64 x, .int .u32 src, .int .u32 (m : Int), .int .u32 (k : Int), .int .i32 tl, .int .i32 ll, .int .i32 nl, .int .i32 loc, .string nm, .float .f64 v] w (law30gtPost x src m k tl ll nl loc nm v w0 X) := by
  go_enter Tryd.func8, Tryd.ntmps8
  have hl9 : (nm.size : Int) ≤ 1048576 := by omega
  have hq : (m : Int) ≤ 65536 := by omega
  have hq2 : (k : Int) ≤ 65536 := by omega
  go_wp2_with fail
  have hL := hO.apart
  have hX := hO.apartX
  have HL := Lib.hid hL
  have HX := Lib.hid hX
  clear hL hX
  have hP9 := hO.pick [] (by decide)
  have T9 := bytesO x src (m : Int) (k : Int) tl ll nl loc nm v _ _ _ hP9 hlen
  refine Calls.mono T9 ?_
  clear hP9 T9
  rintro e u1 ⟨rfl, hQ⟩
  have hN : Own w0 u1 [] X := hQ.back HL.out HX.out [] (by decide) (by decide)
  clear hQ HL HX hO
  have hO := hN
  clear hN
  go_wp2_with fail
  generalize hW : World.alloc _ _ = W3
  have hN : Own w0 W3 [row (u1.heap.size) 28 #[.int .u32 0, .int .u32 (k : Int)]] X := by
    rw [← hW]
    exact (hO).alloc' _ (u1.heap.size) (by simp)
  clear hW hO
  generalize u1.heap.size = B2 at hN ⊢
  have hO := hN
  clear hN
  rw [show ((m : Int) + 1) = ((m + 1 : Nat) : Int) from rfl]
  have hL := hO.apart
  have hX := hO.apartX
  have HL := Lib.hid hL
  have HX := Lib.hid hX
  clear hL hX
  have hP9 := hO.pick [] (by decide)
  have h9_hn : (m + 1 : Nat) ≤ 65537 := (by first | assumption | omega | (simp; done) | (simp; omega))
  have T9 := newParserO x (m + 1 : Nat) 0 k _ _ _ hP9 h9_hn
  refine Calls.mono T9 ?_
  clear hP9 T9 h9_hn
  rintro e u4 ⟨nd5, nd6, nd7, nd8, nd9, rfl, pr10, pr11, pr12, pr13, hQ⟩
  have hN : Own w0 u4 [row (nd5) 207 nd8, row (nd6) 223 nd9, (nd7, .map #[⟨.string ⟨#[95, 95, 112, 111, 119]⟩, .agg #[.int .i32 0, .int .u32 0, .int .u32 (k : Int)], 0⟩] 1), row (B2) 28 #[.int .u32 0, .int .u32 (k : Int)]] X := hQ.back HL.out HX.out [0] (by decide) (by decide)
  clear hQ HL HX hO
  have hO := hN
  clear hN
  have c9_3_0 : u4.cell? ⟨B2, 0, none⟩ = some (.int .u32 0) := hO.cell 3 rfl 0 rfl
  have c9_3_1 : u4.cell? ⟨B2, 1, none⟩ = some (.int .u32 (k : Int)) := hO.cell 3 rfl 1 rfl
  have lt9_3 : B2 < u4.heap.size := hO.lt 3 rfl
  have y9_3 : ∀ o, u4.frozen? ⟨B2, o, none⟩ = false := hO.free 3 rfl
  have HO := Lib.hid hO
  clear hO
  go_wp2_with (first | (go_at_call 19; go_in) | (go_at_call 11; go_in) | (go_at_call 31; go_in) | (go_at_call 32; go_in) | (go_at_call 12; go_in) | (go_at_call 15; go_in) | (go_at_call 29; go_in) | (go_at_call 20; go_in))
  have hO := HO.out
  clear HO c9_3_0 c9_3_1 lt9_3 y9_3
  generalize hW : World.alloc _ _ = W15
  have hN : Own w0 W15 [row (u4.heap.size + 1 + 1 + 1 + 1 + 1 + 1 + 1 + 1 + 1 + 1 + 1 + 1 + 1 + 1 + 1 + 1 + 1) 47 #[.iface 81 (.pointer (some ⟨u4.heap.size + 1 + 1 + 1 + 1 + 1 + 1 + 1 + 1 + 1, 0, none⟩)), .int .i32 ll, .iface 36 (.pointer (some ⟨u4.heap.size + 1 + 1 + 1 + 1 + 1 + 1 + 1 + 1 + 1 + 1 + 1 + 1 + 1, 0, none⟩)), .int .i32 loc, .int .u8 0, .bool false], row (u4.heap.size + 1 + 1 + 1 + 1 + 1 + 1 + 1 + 1 + 1 + 1 + 1 + 1 + 1 + 1 + 1 + 1) 34 #[.iface 36 (.pointer (some ⟨u4.heap.size + 1 + 1 + 1 + 1 + 1 + 1 + 1 + 1 + 1 + 1 + 1 + 1 + 1, 0, none⟩)), .int .i32 loc], row (u4.heap.size + 1 + 1 + 1 + 1 + 1 + 1 + 1 + 1 + 1 + 1 + 1 + 1 + 1 + 1 + 1) 34 #[.iface 81 (.pointer (some ⟨u4.heap.size + 1 + 1 + 1 + 1 + 1 + 1 + 1 + 1 + 1, 0, none⟩)), .int .i32 ll], row (u4.heap.size + 1 + 1 + 1 + 1 + 1 + 1 + 1 + 1 + 1 + 1 + 1 + 1 + 1 + 1) 34 #[.iface 36 (.pointer (some ⟨u4.heap.size + 1 + 1 + 1 + 1 + 1 + 1 + 1 + 1 + 1 + 1 + 1 + 1 + 1, 0, none⟩)), .int .i32 loc], row (u4.heap.size + 1 + 1 + 1 + 1 + 1 + 1 + 1 + 1 + 1 + 1 + 1 + 1 + 1) 50 #[.float .f64 v], row (u4.heap.size + 1 + 1 + 1 + 1 + 1 + 1 + 1 + 1 + 1 + 1 + 1 + 1) 34 #[.iface 36 (.pointer (some ⟨u4.heap.size + 1 + 1 + 1 + 1 + 1 + 1 + 1 + 1 + 1 + 1 + 1 + 1 + 1, 0, none⟩)), .int .i32 loc], row (u4.heap.size + 1 + 1 + 1 + 1 + 1 + 1 + 1 + 1 + 1 + 1 + 1) 32 #[.int .i32 loc], row (u4.heap.size + 1 + 1 + 1 + 1 + 1 + 1 + 1 + 1 + 1 + 1) 34 #[.iface 81 (.pointer (some ⟨u4.heap.size + 1 + 1 + 1 + 1 + 1 + 1 + 1 + 1 + 1, 0, none⟩)), .int .i32 ll], row (u4.heap.size + 1 + 1 + 1 + 1 + 1 + 1 + 1 + 1 + 1) 85 #[.iface 55 (.pointer (some ⟨u4.heap.size + 1 + 1 + 1 + 1, 0, none⟩)), .int .i32 tl, .string nm, .int .i32 nl, .int .u8 0, .bool false, .bool false, .bool false], row (u4.heap.size + 1 + 1 + 1 + 1 + 1 + 1 + 1 + 1) 34 #[.iface 81 (.pointer (some ⟨u4.heap.size + 1 + 1 + 1 + 1 + 1 + 1 + 1 + 1 + 1, 0, none⟩)), .int .i32 ll], row (u4.heap.size + 1 + 1 + 1 + 1 + 1 + 1 + 1) 32 #[.int .i32 nl], row (u4.heap.size + 1 + 1 + 1 + 1 + 1 + 1) 34 #[.iface 55 (.pointer (some ⟨u4.heap.size + 1 + 1 + 1 + 1, 0, none⟩)), .int .i32 tl], row (u4.heap.size + 1 + 1 + 1 + 1 + 1) 32 #[.int .i32 ll], row (u4.heap.size + 1 + 1 + 1 + 1) 214 #[.int .u32 src, .int .u32 (m : Int), .bool false, .bool false, .bool false], row (u4.heap.size + 1 + 1 + 1) 34 #[.iface 55 (.pointer (some ⟨u4.heap.size + 1 + 1 + 1 + 1, 0, none⟩)), .int .i32 tl], row (u4.heap.size + 1 + 1) 28 #[.int .u32 src, .int .u32 (m : Int)], row (u4.heap.size + 1) 32 #[.int .i32 tl], row (u4.heap.size) 28 #[.int .u32 src, .int .u32 (m : Int)], row (nd5) 207 nd8, row (nd6) 223 nd9, (nd7, .map #[⟨.string ⟨#[95, 95, 112, 111, 119]⟩, .agg #[.int .i32 0, .int .u32 0, .int .u32 (k : Int)], 0⟩] 1), row (B2) 28 #[.int .u32 0, .int .u32 (k : Int)]] X := by
    rw [← hW]
    exact ((((((((((((((((((hO).alloc' _ (u4.heap.size) (by simp)).alloc' _ (u4.heap.size + 1) (by simp)).alloc' _ (u4.heap.size + 1 + 1) (by simp)).alloc' _ (u4.heap.size + 1 + 1 + 1) (by simp)).alloc' _ (u4.heap.size + 1 + 1 + 1 + 1) (by simp)).alloc' _ (u4.heap.size + 1 + 1 + 1 + 1 + 1) (by simp)).alloc' _ (u4.heap.size + 1 + 1 + 1 + 1 + 1 + 1) (by simp)).alloc' _ (u4.heap.size + 1 + 1 + 1 + 1 + 1 + 1 + 1) (by simp)).alloc' _ (u4.heap.size + 1 + 1 + 1 + 1 + 1 + 1 + 1 + 1) (by simp)).alloc' _ (u4.heap.size + 1 + 1 + 1 + 1 + 1 + 1 + 1 + 1 + 1) (by simp)).alloc' _ (u4.heap.size + 1 + 1 + 1 + 1 + 1 + 1 + 1 + 1 + 1 + 1) (by simp)).alloc' _ (u4.heap.size + 1 + 1 + 1 + 1 + 1 + 1 + 1 + 1 + 1 + 1 + 1) (by simp)).alloc' _ (u4.heap.size + 1 + 1 + 1 + 1 + 1 + 1 + 1 + 1 + 1 + 1 + 1 + 1) (by simp)).alloc' _ (u4.heap.size + 1 + 1 + 1 + 1 + 1 + 1 + 1 + 1 + 1 + 1 + 1 + 1 + 1) (by simp)).alloc' _ (u4.heap.size + 1 + 1 + 1 + 1 + 1 + 1 + 1 + 1 + 1 + 1 + 1 + 1 + 1 + 1) (by simp)).alloc' _ (u4.heap.size + 1 + 1 + 1 + 1 + 1 + 1 + 1 + 1 + 1 + 1 + 1 + 1 + 1 + 1 + 1) (by simp)).alloc' _ (u4.heap.size + 1 + 1 + 1 + 1 + 1 + 1 + 1 + 1 + 1 + 1 + 1 + 1 + 1 + 1 + 1 + 1) (by simp)).alloc' _ (u4.heap.size + 1 + 1 + 1 + 1 + 1 + 1 + 1 + 1 + 1 + 1 + 1 + 1 + 1 + 1 + 1 + 1 + 1) (by simp)
  clear hW hO
  generalize u4.heap.size + 1 + 1 + 1 + 1 + 1 + 1 + 1 + 1 + 1 + 1 + 1 + 1 + 1 + 1 + 1 + 1 + 1 = B14_17 at hN ⊢
  generalize u4.heap.size + 1 + 1 + 1 + 1 + 1 + 1 + 1 + 1 + 1 + 1 + 1 + 1 + 1 + 1 + 1 + 1 = B14_16 at hN ⊢
  generalize u4.heap.size + 1 + 1 + 1 + 1 + 1 + 1 + 1 + 1 + 1 + 1 + 1 + 1 + 1 + 1 + 1 = B14_15 at hN ⊢
  generalize u4.heap.size + 1 + 1 + 1 + 1 + 1 + 1 + 1 + 1 + 1 + 1 + 1 + 1 + 1 + 1 = B14_14 at hN ⊢
  generalize u4.heap.size + 1 + 1 + 1 + 1 + 1 + 1 + 1 + 1 + 1 + 1 + 1 + 1 + 1 = B14_13 at hN ⊢
  generalize u4.heap.size + 1 + 1 + 1 + 1 + 1 + 1 + 1 + 1 + 1 + 1 + 1 + 1 = B14_12 at hN ⊢
  generalize u4.heap.size + 1 + 1 + 1 + 1 + 1 + 1 + 1 + 1 + 1 + 1 + 1 = B14_11 at hN ⊢
  generalize u4.heap.size + 1 + 1 + 1 + 1 + 1 + 1 + 1 + 1 + 1 + 1 = B14_10 at hN ⊢
  generalize u4.heap.size + 1 + 1 + 1 + 1 + 1 + 1 + 1 + 1 + 1 = B14_9 at hN ⊢
  generalize u4.heap.size + 1 + 1 + 1 + 1 + 1 + 1 + 1 + 1 = B14_8 at hN ⊢
  generalize u4.heap.size + 1 + 1 + 1 + 1 + 1 + 1 + 1 = B14_7 at hN ⊢
  generalize u4.heap.size + 1 + 1 + 1 + 1 + 1 + 1 = B14_6 at hN ⊢
  generalize u4.heap.size + 1 + 1 + 1 + 1 + 1 = B14_5 at hN ⊢
  generalize u4.heap.size + 1 + 1 + 1 + 1 = B14_4 at hN ⊢
  generalize u4.heap.size + 1 + 1 + 1 = B14_3 at hN ⊢
  generalize u4.heap.size + 1 + 1 = B14_2 at hN ⊢
  generalize u4.heap.size + 1 = B14_1 at hN ⊢
  generalize u4.heap.size = B14 at hN ⊢
  have hO := hN
  clear hN
  have hc9 : nd9[m * 10 + 4]? = some (.int .u32 ((0 : Nat) : Int)) := pr13.2 m (by omega)
  have hC1 : Cnt (bumped nd9 m (0 : Nat)) (m + 1) (bump (fun _ => 0) m) := pr13.bumped (by omega) rfl
  have hv8 : bump (fun _ => 0) m m = (1 : Nat) := by simp [bump]
  have hd9 : (bumped nd9 m (0 : Nat))[m * 10 + 4]? = some (.int .u32 ((1 : Nat) : Int)) := by
    have := hC1.2 m (by omega)
    rwa [hv8] at this
  have hC2 : Cnt (bumped (bumped nd9 m (0 : Nat)) m (1 : Nat)) (m + 1) (bump (bump (fun _ => 0) m) m) := hC1.bumped (by omega) hv8
  have hv9 : bump (bump (fun _ => 0) m) m k = (0 : Nat) := by simp [bump, (show ¬ k = m by omega)]
  have hj9 : (bumped (bumped nd9 m (0 : Nat)) m (1 : Nat))[k * 10 + 4]? = some (.int .u32 ((0 : Nat) : Int)) := by
    have := hC2.2 k (by omega)
    rwa [hv9] at this
  have hC3 : Cnt (bumped (bumped (bumped nd9 m (0 : Nat)) m (1 : Nat)) k (0 : Nat)) (m + 1) (bump (bump (bump (fun _ => 0) m) m) k) := hC2.bumped (by omega) hv9
  have HC3 := Lib.hid hC3
  clear hC3 hC2 hC1 hv9 hv8
  have hL := hO.apart
  have hX := hO.apartX
  have HL := Lib.hid hL
  have HX := Lib.hid hX
  clear hL hX
  have hP9 := hO.pick [18, 19, 20, 0, 8, 13] (by decide)
  have h9_hn : (m + 1 : Nat) ≤ 4294967295 := (by first | assumption | omega | (simp; done) | (simp; omega))
  have h9_hi : m < (m + 1 : Nat) := (by first | assumption | omega | (simp; done) | (simp; omega))
  have h9_hcm : (0 : Nat) < 4294967295 := (by first | assumption | omega | (simp; done) | (simp; omega))
  have h9_hcm2 : (1 : Nat) < 4294967295 := (by first | assumption | omega | (simp; done) | (simp; omega))
  have h9_hj : k < (m + 1 : Nat) := (by first | assumption | omega | (simp; done) | (simp; omega))
  have h9_hcjm : (0 : Nat) < 4294967295 := (by first | assumption | omega | (simp; done) | (simp; omega))
  have T9 := low28dot nd5 nd6 (m + 1 : Nat) (m + 1 : Nat) nd8 nd9 nd7 0 k (0 : Nat) m (0 : Nat) (1 : Nat) src B14_4 B14_9 tl nm nl B14_17 ll 36 B14_13 loc 0 false loc _ _ _ hP9 pr10 h9_hn h9_hi hc9 h9_hcm hd9 h9_hcm2 h9_hj hj9 h9_hcjm pr12
  refine Calls.mono T9 ?_
  clear hP9 T9 h9_hn h9_hi h9_hcm h9_hcm2 h9_hj h9_hcjm
  rintro e u16 ⟨nd17, nd18, nd19, nd20, nd21, nd22, nd23, nd24, rfl, hQ⟩
  have hN : Own w0 u16 [row (nd5) 207 nd8, row (nd6) 223 (bumped (bumped (bumped nd9 m (0 : Nat)) m (1 : Nat)) k (0 : Nat)), (nd7, .map #[⟨.string ⟨#[95, 95, 112, 111, 119]⟩, .agg #[.int .i32 0, .int .u32 0, .int .u32 (k : Int)], 0⟩] 1), row (B14_17) 47 #[.iface 81 (.pointer (some ⟨B14_9, 0, none⟩)), .int .i32 ll, .iface 36 (.pointer (some ⟨B14_13, 0, none⟩)), .int .i32 loc, .int .u8 0, .bool false], row (B14_9) 85 #[.iface 55 (.pointer (some ⟨B14_4, 0, none⟩)), .int .i32 tl, .string nm, .int .i32 nl, .int .u8 0, .bool false, .bool false, .bool false], row (B14_4) 214 #[.int .u32 src, .int .u32 (m : Int), .bool false, .bool false, .bool false], row (nd17) 47 #[.iface 81 (.pointer (some ⟨nd21, 0, none⟩)), .int .i32 ll, .iface 72 (.pointer (some ⟨nd18, 0, none⟩)), .int .i32 loc, .int .u8 37, .bool false], row (nd18) 77 #[.iface 55 (.pointer (some ⟨nd19, 0, none⟩)), .int .i32 loc, .slice (some ⟨nd20, 0, none⟩) 2 2, .int .i32 0, .int .u8 0, .int .u8 0, .bool false, .bool false], row (nd19) 214 #[.int .u32 0, .int .u32 (k : Int), .bool false, .bool false, .bool false], row (nd20) 34 #[.iface 81 (.pointer (some ⟨nd22, 0, none⟩)), .int .i32 ll, .iface 36 (.pointer (some ⟨B14_13, 0, none⟩)), .int .i32 loc], row (nd21) 85 #[.iface 55 (.pointer (some ⟨nd23, 0, none⟩)), .int .i32 ll, .string nm, .int .i32 nl, .int .u8 0, .bool false, .bool false, .bool false], row (nd22) 85 #[.iface 55 (.pointer (some ⟨nd24, 0, none⟩)), .int .i32 ll, .string nm, .int .i32 nl, .int .u8 0, .bool false, .bool false, .bool false], row (nd23) 214 #[.int .u32 src, .int .u32 (m : Int), .bool false, .bool false, .bool false], row (nd24) 214 #[.int .u32 src, .int .u32 (m : Int), .bool false, .bool false, .bool false], row (B14_16) 34 #[.iface 36 (.pointer (some ⟨B14_13, 0, none⟩)), .int .i32 loc], row (B14_15) 34 #[.iface 81 (.pointer (some ⟨B14_9, 0, none⟩)), .int .i32 ll], row (B14_14) 34 #[.iface 36 (.pointer (some ⟨B14_13, 0, none⟩)), .int .i32 loc], row (B14_13) 50 #[.float .f64 v], row (B14_12) 34 #[.iface 36 (.pointer (some ⟨B14_13, 0, none⟩)), .int .i32 loc], row (B14_11) 32 #[.int .i32 loc], row (B14_10) 34 #[.iface 81 (.pointer (some ⟨B14_9, 0, none⟩)), .int .i32 ll], row (B14_8) 34 #[.iface 81 (.pointer (some ⟨B14_9, 0, none⟩)), .int .i32 ll], row (B14_7) 32 #[.int .i32 nl], row (B14_6) 34 #[.iface 55 (.pointer (some ⟨B14_4, 0, none⟩)), .int .i32 tl], row (B14_5) 32 #[.int .i32 ll], row (B14_3) 34 #[.iface 55 (.pointer (some ⟨B14_4, 0, none⟩)), .int .i32 tl], row (B14_2) 28 #[.int .u32 src, .int .u32 (m : Int)], row (B14_1) 32 #[.int .i32 tl], row (B14) 28 #[.int .u32 src, .int .u32 (m : Int)], row (B2) 28 #[.int .u32 0, .int .u32 (k : Int)]] X := hQ.back HL.out HX.out [1, 2, 3, 4, 5, 6, 7, 9, 10, 11, 12, 14, 15, 16, 17, 21] (by decide) (by decide)
  clear hQ HL HX hO
  have hO := hN
  clear hN
  clear hc9 hd9 hj9
  have hN : Own w0 u16 [row (nd5) 207 nd8, row (nd6) 223 (bumped (bumped (bumped nd9 m (0 : Nat)) m (1 : Nat)) k (0 : Nat)), row (B14_9) 85 #[.iface 55 (.pointer (some ⟨B14_4, 0, none⟩)), .int .i32 tl, .string nm, .int .i32 nl, .int .u8 0, .bool false, .bool false, .bool false], row (B14_4) 214 #[.int .u32 src, .int .u32 (m : Int), .bool false, .bool false, .bool false], row (nd17) 47 #[.iface 81 (.pointer (some ⟨nd21, 0, none⟩)), .int .i32 ll, .iface 72 (.pointer (some ⟨nd18, 0, none⟩)), .int .i32 loc, .int .u8 37, .bool false], row (nd18) 77 #[.iface 55 (.pointer (some ⟨nd19, 0, none⟩)), .int .i32 loc, .slice (some ⟨nd20, 0, none⟩) 2 2, .int .i32 0, .int .u8 0, .int .u8 0, .bool false, .bool false], row (nd19) 214 #[.int .u32 0, .int .u32 (k : Int), .bool false, .bool false, .bool false], row (nd20) 34 #[.iface 81 (.pointer (some ⟨nd22, 0, none⟩)), .int .i32 ll, .iface 36 (.pointer (some ⟨B14_13, 0, none⟩)), .int .i32 loc], row (nd21) 85 #[.iface 55 (.pointer (some ⟨nd23, 0, none⟩)), .int .i32 ll, .string nm, .int .i32 nl, .int .u8 0, .bool false, .bool false, .bool false], row (nd22) 85 #[.iface 55 (.pointer (some ⟨nd24, 0, none⟩)), .int .i32 ll, .string nm, .int .i32 nl, .int .u8 0, .bool false, .bool false, .bool false], row (nd23) 214 #[.int .u32 src, .int .u32 (m : Int), .bool false, .bool false, .bool false], row (nd24) 214 #[.int .u32 src, .int .u32 (m : Int), .bool false, .bool false, .bool false], row (B14_13) 50 #[.float .f64 v], row (B14_2) 28 #[.int .u32 src, .int .u32 (m : Int)], row (B14) 28 #[.int .u32 src, .int .u32 (m : Int)], row (B2) 28 #[.int .u32 0, .int .u32 (k : Int)]] X := hO.sub [0, 1, 4, 5, 6, 7, 8, 9, 10, 11, 12, 13, 17, 26, 28, 29] (by decide)
  clear hO
  have hO := hN
  clear hN
  have c9_2_0 : u16.cell? ⟨B14_9, 0, none⟩ = some (.iface 55 (.pointer (some ⟨B14_4, 0, none⟩))) := hO.cell 2 rfl 0 rfl
  have c9_2_1 : u16.cell? ⟨B14_9, 1, none⟩ = some (.int .i32 tl) := hO.cell 2 rfl 1 rfl
  have c9_2_2 : u16.cell? ⟨B14_9, 2, none⟩ = some (.string nm) := hO.cell 2 rfl 2 rfl
  have c9_2_3 : u16.cell? ⟨B14_9, 3, none⟩ = some (.int .i32 nl) := hO.cell 2 rfl 3 rfl
  have c9_2_4 : u16.cell? ⟨B14_9, 4, none⟩ = some (.int .u8 0) := hO.cell 2 rfl 4 rfl
  have c9_2_5 : u16.cell? ⟨B14_9, 5, none⟩ = some (.bool false) := hO.cell 2 rfl 5 rfl
  have c9_2_6 : u16.cell? ⟨B14_9, 6, none⟩ = some (.bool false) := hO.cell 2 rfl 6 rfl
  have c9_2_7 : u16.cell? ⟨B14_9, 7, none⟩ = some (.bool false) := hO.cell 2 rfl 7 rfl
  have lt9_2 : B14_9 < u16.heap.size := hO.lt 2 rfl
  have y9_2 : ∀ o, u16.frozen? ⟨B14_9, o, none⟩ = false := hO.free 2 rfl
  have c9_3_0 : u16.cell? ⟨B14_4, 0, none⟩ = some (.int .u32 src) := hO.cell 3 rfl 0 rfl
  have c9_3_1 : u16.cell? ⟨B14_4, 1, none⟩ = some (.int .u32 (m : Int)) := hO.cell 3 rfl 1 rfl
  have c9_3_2 : u16.cell? ⟨B14_4, 2, none⟩ = some (.bool false) := hO.cell 3 rfl 2 rfl
  have c9_3_3 : u16.cell? ⟨B14_4, 3, none⟩ = some (.bool false) := hO.cell 3 rfl 3 rfl
  have c9_3_4 : u16.cell? ⟨B14_4, 4, none⟩ = some (.bool false) := hO.cell 3 rfl 4 rfl
  have lt9_3 : B14_4 < u16.heap.size := hO.lt 3 rfl
  have y9_3 : ∀ o, u16.frozen? ⟨B14_4, o, none⟩ = false := hO.free 3 rfl
  have c9_4_0 : u16.cell? ⟨nd17, 0, none⟩ = some (.iface 81 (.pointer (some ⟨nd21, 0, none⟩))) := hO.cell 4 rfl 0 rfl
  have c9_4_1 : u16.cell? ⟨nd17, 1, none⟩ = some (.int .i32 ll) := hO.cell 4 rfl 1 rfl
  have c9_4_2 : u16.cell? ⟨nd17, 2, none⟩ = some (.iface 72 (.pointer (some ⟨nd18, 0, none⟩))) := hO.cell 4 rfl 2 rfl
  have c9_4_3 : u16.cell? ⟨nd17, 3, none⟩ = some (.int .i32 loc) := hO.cell 4 rfl 3 rfl
  have c9_4_4 : u16.cell? ⟨nd17, 4, none⟩ = some (.int .u8 37) := hO.cell 4 rfl 4 rfl
  have c9_4_5 : u16.cell? ⟨nd17, 5, none⟩ = some (.bool false) := hO.cell 4 rfl 5 rfl
  have lt9_4 : nd17 < u16.heap.size := hO.lt 4 rfl
  have y9_4 : ∀ o, u16.frozen? ⟨nd17, o, none⟩ = false := hO.free 4 rfl
  have c9_5_0 : u16.cell? ⟨nd18, 0, none⟩ = some (.iface 55 (.pointer (some ⟨nd19, 0, none⟩))) := hO.cell 5 rfl 0 rfl
  have c9_5_1 : u16.cell? ⟨nd18, 1, none⟩ = some (.int .i32 loc) := hO.cell 5 rfl 1 rfl
  have c9_5_2 : u16.cell? ⟨nd18, 2, none⟩ = some (.slice (some ⟨nd20, 0, none⟩) 2 2) := hO.cell 5 rfl 2 rfl
  have c9_5_3 : u16.cell? ⟨nd18, 3, none⟩ = some (.int .i32 0) := hO.cell 5 rfl 3 rfl
  have c9_5_4 : u16.cell? ⟨nd18, 4, none⟩ = some (.int .u8 0) := hO.cell 5 rfl 4 rfl
  have c9_5_5 : u16.cell? ⟨nd18, 5, none⟩ = some (.int .u8 0) := hO.cell 5 rfl 5 rfl
  have c9_5_6 : u16.cell? ⟨nd18, 6, none⟩ = some (.bool false) := hO.cell 5 rfl 6 rfl
  have c9_5_7 : u16.cell? ⟨nd18, 7, none⟩ = some (.bool false) := hO.cell 5 rfl 7 rfl
  have lt9_5 : nd18 < u16.heap.size := hO.lt 5 rfl
  have y9_5 : ∀ o, u16.frozen? ⟨nd18, o, none⟩ = false := hO.free 5 rfl
  have c9_6_0 : u16.cell? ⟨nd19, 0, none⟩ = some (.int .u32 0) := hO.cell 6 rfl 0 rfl
  have c9_6_1 : u16.cell? ⟨nd19, 1, none⟩ = some (.int .u32 (k : Int)) := hO.cell 6 rfl 1 rfl
  have c9_6_2 : u16.cell? ⟨nd19, 2, none⟩ = some (.bool false) := hO.cell 6 rfl 2 rfl
  have c9_6_3 : u16.cell? ⟨nd19, 3, none⟩ = some (.bool false) := hO.cell 6 rfl 3 rfl
  have c9_6_4 : u16.cell? ⟨nd19, 4, none⟩ = some (.bool false) := hO.cell 6 rfl 4 rfl
  have lt9_6 : nd19 < u16.heap.size := hO.lt 6 rfl
  have y9_6 : ∀ o, u16.frozen? ⟨nd19, o, none⟩ = false := hO.free 6 rfl
  have c9_7_0 : u16.cell? ⟨nd20, 0, none⟩ = some (.iface 81 (.pointer (some ⟨nd22, 0, none⟩))) := hO.cell 7 rfl 0 rfl
  have c9_7_1 : u16.cell? ⟨nd20, 1, none⟩ = some (.int .i32 ll) := hO.cell 7 rfl 1 rfl
  have c9_7_2 : u16.cell? ⟨nd20, 2, none⟩ = some (.iface 36 (.pointer (some ⟨B14_13, 0, none⟩))) := hO.cell 7 rfl 2 rfl
  have c9_7_3 : u16.cell? ⟨nd20, 3, none⟩ = some (.int .i32 loc) := hO.cell 7 rfl 3 rfl
  have lt9_7 : nd20 < u16.heap.size := hO.lt 7 rfl
  have y9_7 : ∀ o, u16.frozen? ⟨nd20, o, none⟩ = false := hO.free 7 rfl
  have c9_8_0 : u16.cell? ⟨nd21, 0, none⟩ = some (.iface 55 (.pointer (some ⟨nd23, 0, none⟩))) := hO.cell 8 rfl 0 rfl
  have c9_8_1 : u16.cell? ⟨nd21, 1, none⟩ = some (.int .i32 ll) := hO.cell 8 rfl 1 rfl
  have c9_8_2 : u16.cell? ⟨nd21, 2, none⟩ = some (.string nm) := hO.cell 8 rfl 2 rfl
  have c9_8_3 : u16.cell? ⟨nd21, 3, none⟩ = some (.int .i32 nl) := hO.cell 8 rfl 3 rfl
  have c9_8_4 : u16.cell? ⟨nd21, 4, none⟩ = some (.int .u8 0) := hO.cell 8 rfl 4 rfl
  have c9_8_5 : u16.cell? ⟨nd21, 5, none⟩ = some (.bool false) := hO.cell 8 rfl 5 rfl
  have c9_8_6 : u16.cell? ⟨nd21, 6, none⟩ = some (.bool false) := hO.cell 8 rfl 6 rfl
  have c9_8_7 : u16.cell? ⟨nd21, 7, none⟩ = some (.bool false) := hO.cell 8 rfl 7 rfl
  have lt9_8 : nd21 < u16.heap.size := hO.lt 8 rfl
  have y9_8 : ∀ o, u16.frozen? ⟨nd21, o, none⟩ = false := hO.free 8 rfl
  have c9_9_0 : u16.cell? ⟨nd22, 0, none⟩ = some (.iface 55 (.pointer (some ⟨nd24, 0, none⟩))) := hO.cell 9 rfl 0 rfl
  have c9_9_1 : u16.cell? ⟨nd22, 1, none⟩ = some (.int .i32 ll) := hO.cell 9 rfl 1 rfl
  have c9_9_2 : u16.cell? ⟨nd22, 2, none⟩ = some (.string nm) := hO.cell 9 rfl 2 rfl
  have c9_9_3 : u16.cell? ⟨nd22, 3, none⟩ = some (.int .i32 nl) := hO.cell 9 rfl 3 rfl
  have c9_9_4 : u16.cell? ⟨nd22, 4, none⟩ = some (.int .u8 0) := hO.cell 9 rfl 4 rfl
  have c9_9_5 : u16.cell? ⟨nd22, 5, none⟩ = some (.bool false) := hO.cell 9 rfl 5 rfl
  have c9_9_6 : u16.cell? ⟨nd22, 6, none⟩ = some (.bool false) := hO.cell 9 rfl 6 rfl
  have c9_9_7 : u16.cell? ⟨nd22, 7, none⟩ = some (.bool false) := hO.cell 9 rfl 7 rfl
  have lt9_9 : nd22 < u16.heap.size := hO.lt 9 rfl
  have y9_9 : ∀ o, u16.frozen? ⟨nd22, o, none⟩ = false := hO.free 9 rfl
  have c9_10_0 : u16.cell? ⟨nd23, 0, none⟩ = some (.int .u32 src) := hO.cell 10 rfl 0 rfl
  have c9_10_1 : u16.cell? ⟨nd23, 1, none⟩ = some (.int .u32 (m : Int)) := hO.cell 10 rfl 1 rfl
  have c9_10_2 : u16.cell? ⟨nd23, 2, none⟩ = some (.bool false) := hO.cell 10 rfl 2 rfl
  have c9_10_3 : u16.cell? ⟨nd23, 3, none⟩ = some (.bool false) := hO.cell 10 rfl 3 rfl
  have c9_10_4 : u16.cell? ⟨nd23, 4, none⟩ = some (.bool false) := hO.cell 10 rfl 4 rfl
  have lt9_10 : nd23 < u16.heap.size := hO.lt 10 rfl
  have y9_10 : ∀ o, u16.frozen? ⟨nd23, o, none⟩ = false := hO.free 10 rfl
  have c9_11_0 : u16.cell? ⟨nd24, 0, none⟩ = some (.int .u32 src) := hO.cell 11 rfl 0 rfl
  have c9_11_1 : u16.cell? ⟨nd24, 1, none⟩ = some (.int .u32 (m : Int)) := hO.cell 11 rfl 1 rfl
  have c9_11_2 : u16.cell? ⟨nd24, 2, none⟩ = some (.bool false) := hO.cell 11 rfl 2 rfl
  have c9_11_3 : u16.cell? ⟨nd24, 3, none⟩ = some (.bool false) := hO.cell 11 rfl 3 rfl
  have c9_11_4 : u16.cell? ⟨nd24, 4, none⟩ = some (.bool false) := hO.cell 11 rfl 4 rfl
  have lt9_11 : nd24 < u16.heap.size := hO.lt 11 rfl
  have y9_11 : ∀ o, u16.frozen? ⟨nd24, o, none⟩ = false := hO.free 11 rfl
  have c9_12_0 : u16.cell? ⟨B14_13, 0, none⟩ = some (.float .f64 v) := hO.cell 12 rfl 0 rfl
  have lt9_12 : B14_13 < u16.heap.size := hO.lt 12 rfl
  have y9_12 : ∀ o, u16.frozen? ⟨B14_13, o, none⟩ = false := hO.free 12 rfl
  have c9_13_0 : u16.cell? ⟨B14_2, 0, none⟩ = some (.int .u32 src) := hO.cell 13 rfl 0 rfl
  have c9_13_1 : u16.cell? ⟨B14_2, 1, none⟩ = some (.int .u32 (m : Int)) := hO.cell 13 rfl 1 rfl
  have lt9_13 : B14_2 < u16.heap.size := hO.lt 13 rfl
  have y9_13 : ∀ o, u16.frozen? ⟨B14_2, o, none⟩ = false := hO.free 13 rfl
  have c9_14_0 : u16.cell? ⟨B14, 0, none⟩ = some (.int .u32 src) := hO.cell 14 rfl 0 rfl
  have c9_14_1 : u16.cell? ⟨B14, 1, none⟩ = some (.int .u32 (m : Int)) := hO.cell 14 rfl 1 rfl
  have lt9_14 : B14 < u16.heap.size := hO.lt 14 rfl
  have y9_14 : ∀ o, u16.frozen? ⟨B14, o, none⟩ = false := hO.free 14 rfl
  have c9_15_0 : u16.cell? ⟨B2, 0, none⟩ = some (.int .u32 0) := hO.cell 15 rfl 0 rfl
  have c9_15_1 : u16.cell? ⟨B2, 1, none⟩ = some (.int .u32 (k : Int)) := hO.cell 15 rfl 1 rfl
  have lt9_15 : B2 < u16.heap.size := hO.lt 15 rfl
  have y9_15 : ∀ o, u16.frozen? ⟨B2, o, none⟩ = false := hO.free 15 rfl
  have HO := Lib.hid hO
  clear hO
  go_wp2_with (first | (go_at_call 19; go_in) | (go_at_call 11; go_in) | (go_at_call 31; go_in) | (go_at_call 32; go_in) | (go_at_call 12; go_in) | (go_at_call 15; go_in) | (go_at_call 29; go_in) | (go_at_call 20; go_in))
  have hO := HO.out
  clear HO c9_2_0 c9_2_1 c9_2_2 c9_2_3 c9_2_4 c9_2_5 c9_2_6 c9_2_7 lt9_2 y9_2 c9_3_0 c9_3_1 c9_3_2 c9_3_3 c9_3_4 lt9_3 y9_3 c9_4_0 c9_4_1 c9_4_2 c9_4_3 c9_4_4 c9_4_5 lt9_4 y9_4 c9_5_0 c9_5_1 c9_5_2 c9_5_3 c9_5_4 c9_5_5 c9_5_6 c9_5_7 lt9_5 y9_5 c9_6_0 c9_6_1 c9_6_2 c9_6_3 c9_6_4 lt9_6 y9_6 c9_7_0 c9_7_1 c9_7_2 c9_7_3 lt9_7 y9_7 c9_8_0 c9_8_1 c9_8_2 c9_8_3 c9_8_4 c9_8_5 c9_8_6 c9_8_7 lt9_8 y9_8 c9_9_0 c9_9_1 c9_9_2 c9_9_3 c9_9_4 c9_9_5 c9_9_6 c9_9_7 lt9_9 y9_9 c9_10_0 c9_10_1 c9_10_2 c9_10_3 c9_10_4 lt9_10 y9_10 c9_11_0 c9_11_1 c9_11_2 c9_11_3 c9_11_4 lt9_11 y9_11 c9_12_0 lt9_12 y9_12 c9_13_0 c9_13_1 lt9_13 y9_13 c9_14_0 c9_14_1 lt9_14 y9_14 c9_15_0 c9_15_1 lt9_15 y9_15
  generalize hW : World.alloc _ _ = W26
  have hN : Own w0 W26 [row (u16.heap.size + 1) 34 #[.iface 41 (.pointer (some ⟨nd17, 0, none⟩)), .int .i32 ll], row (u16.heap.size) 34 #[.iface 41 (.pointer (some ⟨nd17, 0, none⟩)), .int .i32 ll], row (nd5) 207 nd8, row (nd6) 223 (bumped (bumped (bumped nd9 m (0 : Nat)) m (1 : Nat)) k (0 : Nat)), row (B14_9) 85 #[.iface 55 (.pointer (some ⟨B14_4, 0, none⟩)), .int .i32 tl, .string nm, .int .i32 nl, .int .u8 0, .bool false, .bool false, .bool false], row (B14_4) 214 #[.int .u32 src, .int .u32 (m : Int), .bool false, .bool false, .bool false], row (nd17) 47 #[.iface 81 (.pointer (some ⟨nd21, 0, none⟩)), .int .i32 ll, .iface 72 (.pointer (some ⟨nd18, 0, none⟩)), .int .i32 loc, .int .u8 37, .bool false], row (nd18) 77 #[.iface 55 (.pointer (some ⟨nd19, 0, none⟩)), .int .i32 loc, .slice (some ⟨nd20, 0, none⟩) 2 2, .int .i32 0, .int .u8 0, .int .u8 0, .bool false, .bool false], row (nd19) 214 #[.int .u32 0, .int .u32 (k : Int), .bool false, .bool false, .bool false], row (nd20) 34 #[.iface 81 (.pointer (some ⟨nd22, 0, none⟩)), .int .i32 ll, .iface 36 (.pointer (some ⟨B14_13, 0, none⟩)), .int .i32 loc], row (nd21) 85 #[.iface 55 (.pointer (some ⟨nd23, 0, none⟩)), .int .i32 ll, .string nm, .int .i32 nl, .int .u8 0, .bool false, .bool false, .bool false], row (nd22) 85 #[.iface 55 (.pointer (some ⟨nd24, 0, none⟩)), .int .i32 ll, .string nm, .int .i32 nl, .int .u8 0, .bool false, .bool false, .bool false], row (nd23) 214 #[.int .u32 src, .int .u32 (m : Int), .bool false, .bool false, .bool false], row (nd24) 214 #[.int .u32 src, .int .u32 (m : Int), .bool false, .bool false, .bool false], row (B14_13) 50 #[.float .f64 v], row (B14_2) 28 #[.int .u32 src, .int .u32 (m : Int)], row (B14) 28 #[.int .u32 src, .int .u32 (m : Int)], row (B2) 28 #[.int .u32 0, .int .u32 (k : Int)]] X := by
    rw [← hW]
    exact ((hO).alloc' _ (u16.heap.size) (by simp)).alloc' _ (u16.heap.size + 1) (by simp)
  clear hW hO
  generalize u16.heap.size + 1 = B25_1 at hN ⊢
  generalize u16.heap.size = B25 at hN ⊢
  have hO := hN
  clear hN
  refine wp_region_own (e := rD1gtE src m k tl ll nl loc nm v B2 nd5 nd6 nd8 nd9 B14_13 B14_9 B14_4 B14_2 B14 nd17 nd18 nd19 nd20 nd21 nd22 nd23 nd24 B25_1 B25) (anc := rD1gtAnc) (G := (fun L9 α u9 => OwnF w0 u9 (act rD1gtCnt 18 L9) (rD1gtR src m k tl ll nl loc nm v B2 nd5 nd6 nd8 nd9 B14_13 B14_9 B14_4 B14_2 B14 nd17 nd18 nd19 nd20 nd21 nd22 nd23 nd24 B25_1 B25 L9 α) X)) (by kernel_rfl) (by kernel_rfl) (by kernel_rfl) (by kernel_rfl) (rD1gt_he src m k tl ll nl loc nm v B2 nd5 nd6 nd8 nd9 B14_13 B14_9 B14_4 B14_2 B14 nd17 nd18 nd19 nd20 nd21 nd22 nd23 nd24 B25_1 B25) ?_ (RunsAll.all ?_) ?_
  · have hp : ∀ i, act rD1gtCnt 18 (fun _ => false) i → i ∈ [999, 1999, 2999, 3999, 4999, 5999, 6999, 7999, 8999, 9999, 10999, 11999, 12999, 13999, 14999, 15999, 16999, 17999] := by
      intro i hi
      have h9 : i % 1000 = 999 := by
        by_cases h : i % 1000 = 999
        · exact h
        · exact absurd (act_lt hi h) (by simp)
      unfold act at hi
      rw [if_pos h9] at hi
      simp only [List.mem_cons, List.not_mem_nil, or_false]
      omega
    refine hO.drew.family (fun i hi => ?_) (fun i j hi hj hij => ?_)
    · have := hp i hi
      simp only [List.mem_cons, List.not_mem_nil, or_false] at this
      rcases this with rfl | rfl | rfl | rfl | rfl | rfl | rfl | rfl | rfl | rfl | rfl | rfl | rfl | rfl | rfl | rfl | rfl | rfl <;> rfl
    · have h1 := hp i hi
      have h2 := hp j hj
      simp only [List.mem_cons, List.not_mem_nil, or_false] at h1 h2
      omega
  · refine ⟨?_, ?_, ?_, ?_, ?_, ?_, ?_, ?_, ?_, ?_, ?_, trivial⟩
    · intro L9 α a9 u9 K9 hL hcl hA hG hS h0 hK
      replace hL : L9 0 = false := hL
      have q31 : a9.tmps[31]? = some (.pointer (some ⟨nd17, 0, none⟩)) := (h0 31 (by kernel_rfl)).trans rfl
      have s31 := Rega.eval_of q31
      go_simp
      exact hK _ α _ (fun _ _ => rfl) rfl (step_same (rD1gt_st src m k tl ll nl loc nm v B2 nd5 nd6 nd8 nd9 B14_13 B14_9 B14_4 B14_2 B14 nd17 nd18 nd19 nd20 nd21 nd22 nd23 nd24 B25_1 B25) hL hcl rfl rfl hG)
    · intro L9 α a9 u9 K9 hL hcl hA hG hS h0 hK
      replace hL : L9 1 = false := hL
      have q114 : a9.tmps[114]? = some (.pointer (some ⟨nd17, 0, none⟩)) := hS 0 114 (by decide) rfl (by show 114 < 228; decide)
      have s114 := Rega.eval_of q114
      go_simp
      exact hK _ α _ (fun _ _ => rfl) rfl (step_same (rD1gt_st src m k tl ll nl loc nm v B2 nd5 nd6 nd8 nd9 B14_13 B14_9 B14_4 B14_2 B14 nd17 nd18 nd19 nd20 nd21 nd22 nd23 nd24 B25_1 B25) hL hcl rfl rfl hG)
    · intro L9 α a9 u9 K9 hL hcl hA hG hS h0 hK
      replace hL : L9 2 = false := hL
      have q115 : a9.tmps[115]? = some (.pointer (some ⟨nd17, 0, none⟩)) := hS 1 115 (by decide) rfl (by show 115 < 228; decide)
      have s115 := Rega.eval_of q115
      go_simp
      exact hK _ α _ (fun _ _ => rfl) rfl (step_same (rD1gt_st src m k tl ll nl loc nm v B2 nd5 nd6 nd8 nd9 B14_13 B14_9 B14_4 B14_2 B14 nd17 nd18 nd19 nd20 nd21 nd22 nd23 nd24 B25_1 B25) hL hcl rfl rfl hG)
    · intro L9 α a9 u9 K9 hL hcl hA hG hS h0 hK
      replace hL : L9 3 = false := hL
      have q116 : a9.tmps[116]? = some (.pointer (some ⟨nd17, 0, none⟩)) := hS 2 116 (by decide) rfl (by show 116 < 228; decide)
      have s116 := Rega.eval_of q116
      have e0 : rD1gtR src m k tl ll nl loc nm v B2 nd5 nd6 nd8 nd9 B14_13 B14_9 B14_4 B14_2 B14 nd17 nd18 nd19 nd20 nd21 nd22 nd23 nd24 B25_1 B25 L9 α 6999 = row (nd17) 47 #[.iface 81 (.pointer (some ⟨nd21, 0, none⟩)), .int .i32 ll, .iface 72 (.pointer (some ⟨nd18, 0, none⟩)), .int .i32 loc, .int .u8 37, .bool false] := rfl
      have hr := hG.rowAt 6999 (act_base 6999 rfl) e0
      have c0 : u9.cell? ⟨nd17, 0, none⟩ = some (.iface 81 (.pointer (some ⟨nd21, 0, none⟩))) := hr.cell rfl
      have c1 : u9.cell? ⟨nd17, 1, none⟩ = some (.int .i32 ll) := hr.cell rfl
      clear hr e0
      go_simp
      exact hK _ α _ (fun _ _ => rfl) rfl (step_same (rD1gt_st src m k tl ll nl loc nm v B2 nd5 nd6 nd8 nd9 B14_13 B14_9 B14_4 B14_2 B14 nd17 nd18 nd19 nd20 nd21 nd22 nd23 nd24 B25_1 B25) hL hcl rfl rfl hG)
    · intro L9 α a9 u9 K9 hL hcl hA hG hS h0 hK
      replace hL : L9 4 = false := hL
      have q5 : a9.tmps[5]? = some (.int .i32 ll) := (h0 5 (by kernel_rfl)).trans rfl
      have s5 := Rega.eval_of q5
      go_simp
      exact hK _ α _ (fun _ _ => rfl) rfl (step_same (rD1gt_st src m k tl ll nl loc nm v B2 nd5 nd6 nd8 nd9 B14_13 B14_9 B14_4 B14_2 B14 nd17 nd18 nd19 nd20 nd21 nd22 nd23 nd24 B25_1 B25) hL hcl rfl rfl hG)
    · intro L9 α a9 u9 K9 hL hcl hA hG hS h0 hK
      replace hL : L9 5 = false := hL
      have q24 : a9.tmps[24]? = some (.pointer (some ⟨B14, 0, none⟩)) := (h0 24 (by kernel_rfl)).trans rfl
      have s24 := Rega.eval_of q24
      have e0 : rD1gtR src m k tl ll nl loc nm v B2 nd5 nd6 nd8 nd9 B14_13 B14_9 B14_4 B14_2 B14 nd17 nd18 nd19 nd20 nd21 nd22 nd23 nd24 B25_1 B25 L9 α 16999 = row (B14) 28 #[.int .u32 src, .int .u32 (m : Int)] := rfl
      have hr := hG.rowAt 16999 (act_base 16999 rfl) e0
      have c0 : u9.cell? ⟨B14, 0, none⟩ = some (.int .u32 src) := hr.cell rfl
      have c1 : u9.cell? ⟨B14, 1, none⟩ = some (.int .u32 (m : Int)) := hr.cell rfl
      clear hr e0
      go_simp
      exact hK _ α _ (fun _ _ => rfl) rfl (step_same (rD1gt_st src m k tl ll nl loc nm v B2 nd5 nd6 nd8 nd9 B14_13 B14_9 B14_4 B14_2 B14 nd17 nd18 nd19 nd20 nd21 nd22 nd23 nd24 B25_1 B25) hL hcl rfl rfl hG)
    · intro L9 α a9 u9 K9 hL hcl hA hG hS h0 hK
      replace hL : L9 6 = false := hL
      have q8 : a9.tmps[8]? = some (.string nm) := (h0 8 (by kernel_rfl)).trans rfl
      have s8 := Rega.eval_of q8
      go_simp
      exact hK _ α _ (fun _ _ => rfl) rfl (step_same (rD1gt_st src m k tl ll nl loc nm v B2 nd5 nd6 nd8 nd9 B14_13 B14_9 B14_4 B14_2 B14 nd17 nd18 nd19 nd20 nd21 nd22 nd23 nd24 B25_1 B25) hL hcl rfl rfl hG)
    · intro L9 α a9 u9 K9 hL hcl hA hG hS h0 hK
      replace hL : L9 7 = false := hL
      have q6 : a9.tmps[6]? = some (.int .i32 nl) := (h0 6 (by kernel_rfl)).trans rfl
      have s6 := Rega.eval_of q6
      go_simp
      exact hK _ α _ (fun _ _ => rfl) rfl (step_same (rD1gt_st src m k tl ll nl loc nm v B2 nd5 nd6 nd8 nd9 B14_13 B14_9 B14_4 B14_2 B14 nd17 nd18 nd19 nd20 nd21 nd22 nd23 nd24 B25_1 B25) hL hcl rfl rfl hG)
    · intro L9 α a9 u9 K9 hL hcl hA hG hS h0 hK
      replace hL : L9 8 = false := hL
      have q27 : a9.tmps[27]? = some (.pointer (some ⟨B14_9, 0, none⟩)) := (h0 27 (by kernel_rfl)).trans rfl
      have s27 := Rega.eval_of q27
      go_simp
      exact hK _ α _ (fun _ _ => rfl) rfl (step_same (rD1gt_st src m k tl ll nl loc nm v B2 nd5 nd6 nd8 nd9 B14_13 B14_9 B14_4 B14_2 B14 nd17 nd18 nd19 nd20 nd21 nd22 nd23 nd24 B25_1 B25) hL hcl rfl rfl hG)
    · intro L9 α a9 u9 K9 hL hcl hA hG hS h0 hK
      replace hL : L9 9 = false := hL
      have q117 : a9.tmps[117]? = some (.agg #[.iface 81 (.pointer (some ⟨nd21, 0, none⟩)), .int .i32 ll]) := hS 3 117 (by decide) rfl (by show 117 < 228; decide)
      have s117 := Rega.eval_of q117
      have q118 : a9.tmps[118]? = some (.int .i32 ll) := hS 4 118 (by decide) rfl (by show 118 < 228; decide)
      have s118 := Rega.eval_of q118
      have q119 : a9.tmps[119]? = some (.agg #[.int .u32 src, .int .u32 (m : Int)]) := hS 5 119 (by decide) rfl (by show 119 < 228; decide)
      have s119 := Rega.eval_of q119
      have q120 : a9.tmps[120]? = some (.string nm) := hS 6 120 (by decide) rfl (by show 120 < 228; decide)
      have s120 := Rega.eval_of q120
      have q121 : a9.tmps[121]? = some (.int .i32 nl) := hS 7 121 (by decide) rfl (by show 121 < 228; decide)
      have s121 := Rega.eval_of q121
      have q122 : a9.tmps[122]? = some (.pointer (some ⟨B14_9, 0, none⟩)) := hS 8 122 (by decide) rfl (by show 122 < 228; decide)
      have s122 := Rega.eval_of q122
      go_simp
      have e0 : rD1gtR src m k tl ll nl loc nm v B2 nd5 nd6 nd8 nd9 B14_13 B14_9 B14_4 B14_2 B14 nd17 nd18 nd19 nd20 nd21 nd22 nd23 nd24 B25_1 B25 L9 α 10999 = row (nd21) 85 #[.iface 55 (.pointer (some ⟨nd23, 0, none⟩)), .int .i32 ll, .string nm, .int .i32 nl, .int .u8 0, .bool false, .bool false, .bool false] := rfl
      have e1 : rD1gtR src m k tl ll nl loc nm v B2 nd5 nd6 nd8 nd9 B14_13 B14_9 B14_4 B14_2 B14 nd17 nd18 nd19 nd20 nd21 nd22 nd23 nd24 B25_1 B25 L9 α 4999 = row (B14_9) 85 #[.iface 55 (.pointer (some ⟨B14_4, 0, none⟩)), .int .i32 tl, .string nm, .int .i32 nl, .int .u8 0, .bool false, .bool false, .bool false] := rfl
      have e2 : rD1gtR src m k tl ll nl loc nm v B2 nd5 nd6 nd8 nd9 B14_13 B14_9 B14_4 B14_2 B14 nd17 nd18 nd19 nd20 nd21 nd22 nd23 nd24 B25_1 B25 L9 α 12999 = row (nd23) 214 #[.int .u32 src, .int .u32 (m : Int), .bool false, .bool false, .bool false] := rfl
      have e3 : rD1gtR src m k tl ll nl loc nm v B2 nd5 nd6 nd8 nd9 B14_13 B14_9 B14_4 B14_2 B14 nd17 nd18 nd19 nd20 nd21 nd22 nd23 nd24 B25_1 B25 L9 α 5999 = row (B14_4) 214 #[.int .u32 src, .int .u32 (m : Int), .bool false, .bool false, .bool false] := rfl
      have hM : ∀ i, i ∈ [10999, 4999, 12999, 5999] → act rD1gtCnt 18 L9 i := by
        intro i hi
        simp only [List.mem_cons, List.not_mem_nil, or_false] at hi
        rcases hi with rfl | rfl | rfl | rfl
        · exact act_base 10999 rfl
        · exact act_base 4999 rfl
        · exact act_base 12999 rfl
        · exact act_base 5999 rfl
      have hP : Own w0 u9 [row (nd21) 85 #[.iface 55 (.pointer (some ⟨nd23, 0, none⟩)), .int .i32 ll, .string nm, .int .i32 nl, .int .u8 0, .bool false, .bool false, .bool false], row (B14_9) 85 #[.iface 55 (.pointer (some ⟨B14_4, 0, none⟩)), .int .i32 tl, .string nm, .int .i32 nl, .int .u8 0, .bool false, .bool false, .bool false], row (nd23) 214 #[.int .u32 src, .int .u32 (m : Int), .bool false, .bool false, .bool false], row (B14_4) 214 #[.int .u32 src, .int .u32 (m : Int), .bool false, .bool false, .bool false]] _ := (hG.pick [10999, 4999, 12999, 5999] (by decide) hM).conv (by
        show [rD1gtR src m k tl ll nl loc nm v B2 nd5 nd6 nd8 nd9 B14_13 B14_9 B14_4 B14_2 B14 nd17 nd18 nd19 nd20 nd21 nd22 nd23 nd24 B25_1 B25 L9 α 10999, rD1gtR src m k tl ll nl loc nm v B2 nd5 nd6 nd8 nd9 B14_13 B14_9 B14_4 B14_2 B14 nd17 nd18 nd19 nd20 nd21 nd22 nd23 nd24 B25_1 B25 L9 α 4999, rD1gtR src m k tl ll nl loc nm v B2 nd5 nd6 nd8 nd9 B14_13 B14_9 B14_4 B14_2 B14 nd17 nd18 nd19 nd20 nd21 nd22 nd23 nd24 B25_1 B25 L9 α 12999, rD1gtR src m k tl ll nl loc nm v B2 nd5 nd6 nd8 nd9 B14_13 B14_9 B14_4 B14_2 B14 nd17 nd18 nd19 nd20 nd21 nd22 nd23 nd24 B25_1 B25 L9 α 5999] = _
        rw [e0, e1, e2, e3])
      clear e0 e1 e2 e3 hM
      refine Calls.mono (dotCopyO nd21 ll src (m : Int) nm nl B14_9 nd23 B14_4 tl _ _ _ hP ) ?_
      rintro e9 u1 ⟨rfl, hQ⟩
      obtain ⟨α', hα'⟩ : ∃ α' : Rega.Atoms, α' = α := ⟨_, rfl⟩
      have f0 : rD1gtR src m k tl ll nl loc nm v B2 nd5 nd6 nd8 nd9 B14_13 B14_9 B14_4 B14_2 B14 nd17 nd18 nd19 nd20 nd21 nd22 nd23 nd24 B25_1 B25 (Rega.ran L9 9) α' 10999 = row (nd21) 85 #[.iface 55 (.pointer (some ⟨nd23, 0, none⟩)), .int .i32 ll, .string nm, .int .i32 nl, .int .u8 0, .bool false, .bool false, .bool false] := rfl
      have f1 : rD1gtR src m k tl ll nl loc nm v B2 nd5 nd6 nd8 nd9 B14_13 B14_9 B14_4 B14_2 B14 nd17 nd18 nd19 nd20 nd21 nd22 nd23 nd24 B25_1 B25 (Rega.ran L9 9) α' 4999 = row (B14_9) 85 #[.iface 55 (.pointer (some ⟨B14_4, 0, none⟩)), .int .i32 tl, .string nm, .int .i32 nl, .int .u8 0, .bool false, .bool false, .bool false] := rfl
      have f2 : rD1gtR src m k tl ll nl loc nm v B2 nd5 nd6 nd8 nd9 B14_13 B14_9 B14_4 B14_2 B14 nd17 nd18 nd19 nd20 nd21 nd22 nd23 nd24 B25_1 B25 (Rega.ran L9 9) α' 12999 = row (nd23) 214 #[.int .u32 src, .int .u32 (m : Int), .bool false, .bool false, .bool false] := rfl
      have f3 : rD1gtR src m k tl ll nl loc nm v B2 nd5 nd6 nd8 nd9 B14_13 B14_9 B14_4 B14_2 B14 nd17 nd18 nd19 nd20 nd21 nd22 nd23 nd24 B25_1 B25 (Rega.ran L9 9) α' 5999 = row (B14_4) 214 #[.int .u32 src, .int .u32 (m : Int), .bool false, .bool false, .bool false] := rfl
      have hα : ∀ j, j % 1000 ≠ 9 → α' j = α j := fun j hj => by rw [hα']
      skip
      refine hK _ α' _ hα ?_ (step_call (rD1gt_st src m k tl ll nl loc nm v B2 nd5 nd6 nd8 nd9 B14_13 B14_9 B14_4 B14_2 B14 nd17 nd18 nd19 nd20 nd21 nd22 nd23 nd24 B25_1 B25) hL hcl hα [10999, 4999, 12999, 5999] [10999, 4999, 12999, 5999] (by decide) (by decide) (by decide) (M := _) ?_ hG hQ)
      · rfl
      · show [rD1gtR src m k tl ll nl loc nm v B2 nd5 nd6 nd8 nd9 B14_13 B14_9 B14_4 B14_2 B14 nd17 nd18 nd19 nd20 nd21 nd22 nd23 nd24 B25_1 B25 (Rega.ran L9 9) α' 10999, rD1gtR src m k tl ll nl loc nm v B2 nd5 nd6 nd8 nd9 B14_13 B14_9 B14_4 B14_2 B14 nd17 nd18 nd19 nd20 nd21 nd22 nd23 nd24 B25_1 B25 (Rega.ran L9 9) α' 4999, rD1gtR src m k tl ll nl loc nm v B2 nd5 nd6 nd8 nd9 B14_13 B14_9 B14_4 B14_2 B14 nd17 nd18 nd19 nd20 nd21 nd22 nd23 nd24 B25_1 B25 (Rega.ran L9 9) α' 12999, rD1gtR src m k tl ll nl loc nm v B2 nd5 nd6 nd8 nd9 B14_13 B14_9 B14_4 B14_2 B14 nd17 nd18 nd19 nd20 nd21 nd22 nd23 nd24 B25_1 B25 (Rega.ran L9 9) α' 5999] = _
        rw [f0, f1, f2, f3]
    · intro L9 α a9 u9 K9 hL hcl hA hG hS h0 hK
      replace hL : L9 10 = false := hL
      have q123 : a9.tmps[123]? = some (.pointer (some ⟨nd21, 0, none⟩)) := hS 9 123 (by decide) rfl (by show 123 < 228; decide)
      have s123 := Rega.eval_of q123
      go_simp
      exact hK _ α _ (fun _ _ => rfl) rfl (step_same (rD1gt_st src m k tl ll nl loc nm v B2 nd5 nd6 nd8 nd9 B14_13 B14_9 B14_4 B14_2 B14 nd17 nd18 nd19 nd20 nd21 nd22 nd23 nd24 B25_1 B25) hL hcl rfl rfl hG)
  · intro α u hG
    have e0 : rD1gtR src m k tl ll nl loc nm v B2 nd5 nd6 nd8 nd9 B14_13 B14_9 B14_4 B14_2 B14 nd17 nd18 nd19 nd20 nd21 nd22 nd23 nd24 B25_1 B25 (fun k => decide (k < 11)) α 999 = row (B25_1) 34 #[.iface 41 (.pointer (some ⟨nd17, 0, none⟩)), .int .i32 ll] := rfl
    have e1 : rD1gtR src m k tl ll nl loc nm v B2 nd5 nd6 nd8 nd9 B14_13 B14_9 B14_4 B14_2 B14 nd17 nd18 nd19 nd20 nd21 nd22 nd23 nd24 B25_1 B25 (fun k => decide (k < 11)) α 1999 = row (B25) 34 #[.iface 41 (.pointer (some ⟨nd17, 0, none⟩)), .int .i32 ll] := rfl
    have e2 : rD1gtR src m k tl ll nl loc nm v B2 nd5 nd6 nd8 nd9 B14_13 B14_9 B14_4 B14_2 B14 nd17 nd18 nd19 nd20 nd21 nd22 nd23 nd24 B25_1 B25 (fun k => decide (k < 11)) α 2999 = row (nd5) 207 nd8 := rfl
    have e3 : rD1gtR src m k tl ll nl loc nm v B2 nd5 nd6 nd8 nd9 B14_13 B14_9 B14_4 B14_2 B14 nd17 nd18 nd19 nd20 nd21 nd22 nd23 nd24 B25_1 B25 (fun k => decide (k < 11)) α 3999 = row (nd6) 223 (bumped (bumped (bumped nd9 m (0 : Nat)) m (1 : Nat)) k (0 : Nat)) := rfl
    have e4 : rD1gtR src m k tl ll nl loc nm v B2 nd5 nd6 nd8 nd9 B14_13 B14_9 B14_4 B14_2 B14 nd17 nd18 nd19 nd20 nd21 nd22 nd23 nd24 B25_1 B25 (fun k => decide (k < 11)) α 4999 = row (B14_9) 85 #[.iface 55 (.pointer (some ⟨B14_4, 0, none⟩)), .int .i32 tl, .string nm, .int .i32 nl, .int .u8 0, .bool false, .bool false, .bool false] := rfl
    have e5 : rD1gtR src m k tl ll nl loc nm v B2 nd5 nd6 nd8 nd9 B14_13 B14_9 B14_4 B14_2 B14 nd17 nd18 nd19 nd20 nd21 nd22 nd23 nd24 B25_1 B25 (fun k => decide (k < 11)) α 5999 = row (B14_4) 214 #[.int .u32 src, .int .u32 (m : Int), .bool false, .bool false, .bool false] := rfl
    have e6 : rD1gtR src m k tl ll nl loc nm v B2 nd5 nd6 nd8 nd9 B14_13 B14_9 B14_4 B14_2 B14 nd17 nd18 nd19 nd20 nd21 nd22 nd23 nd24 B25_1 B25 (fun k => decide (k < 11)) α 6999 = row (nd17) 47 #[.iface 81 (.pointer (some ⟨nd21, 0, none⟩)), .int .i32 ll, .iface 72 (.pointer (some ⟨nd18, 0, none⟩)), .int .i32 loc, .int .u8 37, .bool false] := rfl
    have e7 : rD1gtR src m k tl ll nl loc nm v B2 nd5 nd6 nd8 nd9 B14_13 B14_9 B14_4 B14_2 B14 nd17 nd18 nd19 nd20 nd21 nd22 nd23 nd24 B25_1 B25 (fun k => decide (k < 11)) α 7999 = row (nd18) 77 #[.iface 55 (.pointer (some ⟨nd19, 0, none⟩)), .int .i32 loc, .slice (some ⟨nd20, 0, none⟩) 2 2, .int .i32 0, .int .u8 0, .int .u8 0, .bool false, .bool false] := rfl
    have e8 : rD1gtR src m k tl ll nl loc nm v B2 nd5 nd6 nd8 nd9 B14_13 B14_9 B14_4 B14_2 B14 nd17 nd18 nd19 nd20 nd21 nd22 nd23 nd24 B25_1 B25 (fun k => decide (k < 11)) α 8999 = row (nd19) 214 #[.int .u32 0, .int .u32 (k : Int), .bool false, .bool false, .bool false] := rfl
    have e9 : rD1gtR src m k tl ll nl loc nm v B2 nd5 nd6 nd8 nd9 B14_13 B14_9 B14_4 B14_2 B14 nd17 nd18 nd19 nd20 nd21 nd22 nd23 nd24 B25_1 B25 (fun k => decide (k < 11)) α 9999 = row (nd20) 34 #[.iface 81 (.pointer (some ⟨nd22, 0, none⟩)), .int .i32 ll, .iface 36 (.pointer (some ⟨B14_13, 0, none⟩)), .int .i32 loc] := rfl
    have e10 : rD1gtR src m k tl ll nl loc nm v B2 nd5 nd6 nd8 nd9 B14_13 B14_9 B14_4 B14_2 B14 nd17 nd18 nd19 nd20 nd21 nd22 nd23 nd24 B25_1 B25 (fun k => decide (k < 11)) α 10999 = row (nd21) 85 #[.iface 55 (.pointer (some ⟨nd23, 0, none⟩)), .int .i32 ll, .string nm, .int .i32 nl, .int .u8 0, .bool false, .bool false, .bool false] := rfl
    have e11 : rD1gtR src m k tl ll nl loc nm v B2 nd5 nd6 nd8 nd9 B14_13 B14_9 B14_4 B14_2 B14 nd17 nd18 nd19 nd20 nd21 nd22 nd23 nd24 B25_1 B25 (fun k => decide (k < 11)) α 11999 = row (nd22) 85 #[.iface 55 (.pointer (some ⟨nd24, 0, none⟩)), .int .i32 ll, .string nm, .int .i32 nl, .int .u8 0, .bool false, .bool false, .bool false] := rfl
    have e12 : rD1gtR src m k tl ll nl loc nm v B2 nd5 nd6 nd8 nd9 B14_13 B14_9 B14_4 B14_2 B14 nd17 nd18 nd19 nd20 nd21 nd22 nd23 nd24 B25_1 B25 (fun k => decide (k < 11)) α 12999 = row (nd23) 214 #[.int .u32 src, .int .u32 (m : Int), .bool false, .bool false, .bool false] := rfl
    have e13 : rD1gtR src m k tl ll nl loc nm v B2 nd5 nd6 nd8 nd9 B14_13 B14_9 B14_4 B14_2 B14 nd17 nd18 nd19 nd20 nd21 nd22 nd23 nd24 B25_1 B25 (fun k => decide (k < 11)) α 13999 = row (nd24) 214 #[.int .u32 src, .int .u32 (m : Int), .bool false, .bool false, .bool false] := rfl
    have e14 : rD1gtR src m k tl ll nl loc nm v B2 nd5 nd6 nd8 nd9 B14_13 B14_9 B14_4 B14_2 B14 nd17 nd18 nd19 nd20 nd21 nd22 nd23 nd24 B25_1 B25 (fun k => decide (k < 11)) α 14999 = row (B14_13) 50 #[.float .f64 v] := rfl
    have e15 : rD1gtR src m k tl ll nl loc nm v B2 nd5 nd6 nd8 nd9 B14_13 B14_9 B14_4 B14_2 B14 nd17 nd18 nd19 nd20 nd21 nd22 nd23 nd24 B25_1 B25 (fun k => decide (k < 11)) α 15999 = row (B14_2) 28 #[.int .u32 src, .int .u32 (m : Int)] := rfl
    have e16 : rD1gtR src m k tl ll nl loc nm v B2 nd5 nd6 nd8 nd9 B14_13 B14_9 B14_4 B14_2 B14 nd17 nd18 nd19 nd20 nd21 nd22 nd23 nd24 B25_1 B25 (fun k => decide (k < 11)) α 16999 = row (B14) 28 #[.int .u32 src, .int .u32 (m : Int)] := rfl
    have e17 : rD1gtR src m k tl ll nl loc nm v B2 nd5 nd6 nd8 nd9 B14_13 B14_9 B14_4 B14_2 B14 nd17 nd18 nd19 nd20 nd21 nd22 nd23 nd24 B25_1 B25 (fun k => decide (k < 11)) α 17999 = row (B2) 28 #[.int .u32 0, .int .u32 (k : Int)] := rfl
    have hO : Own w0 u [row (B25_1) 34 #[.iface 41 (.pointer (some ⟨nd17, 0, none⟩)), .int .i32 ll], row (B25) 34 #[.iface 41 (.pointer (some ⟨nd17, 0, none⟩)), .int .i32 ll], row (nd5) 207 nd8, row (nd6) 223 (bumped (bumped (bumped nd9 m (0 : Nat)) m (1 : Nat)) k (0 : Nat)), row (B14_9) 85 #[.iface 55 (.pointer (some ⟨B14_4, 0, none⟩)), .int .i32 tl, .string nm, .int .i32 nl, .int .u8 0, .bool false, .bool false, .bool false], row (B14_4) 214 #[.int .u32 src, .int .u32 (m : Int), .bool false, .bool false, .bool false], row (nd17) 47 #[.iface 81 (.pointer (some ⟨nd21, 0, none⟩)), .int .i32 ll, .iface 72 (.pointer (some ⟨nd18, 0, none⟩)), .int .i32 loc, .int .u8 37, .bool false], row (nd18) 77 #[.iface 55 (.pointer (some ⟨nd19, 0, none⟩)), .int .i32 loc, .slice (some ⟨nd20, 0, none⟩) 2 2, .int .i32 0, .int .u8 0, .int .u8 0, .bool false, .bool false], row (nd19) 214 #[.int .u32 0, .int .u32 (k : Int), .bool false, .bool false, .bool false], row (nd20) 34 #[.iface 81 (.pointer (some ⟨nd22, 0, none⟩)), .int .i32 ll, .iface 36 (.pointer (some ⟨B14_13, 0, none⟩)), .int .i32 loc], row (nd21) 85 #[.iface 55 (.pointer (some ⟨nd23, 0, none⟩)), .int .i32 ll, .string nm, .int .i32 nl, .int .u8 0, .bool false, .bool false, .bool false], row (nd22) 85 #[.iface 55 (.pointer (some ⟨nd24, 0, none⟩)), .int .i32 ll, .string nm, .int .i32 nl, .int .u8 0, .bool false, .bool false, .bool false], row (nd23) 214 #[.int .u32 src, .int .u32 (m : Int), .bool false, .bool false, .bool false], row (nd24) 214 #[.int .u32 src, .int .u32 (m : Int), .bool false, .bool false, .bool false], row (B14_13) 50 #[.float .f64 v], row (B14_2) 28 #[.int .u32 src, .int .u32 (m : Int)], row (B14) 28 #[.int .u32 src, .int .u32 (m : Int)], row (B2) 28 #[.int .u32 0, .int .u32 (k : Int)]] X := (hG.list [999, 1999, 2999, 3999, 4999, 5999, 6999, 7999, 8999, 9999, 10999, 11999, 12999, 13999, 14999, 15999, 16999, 17999] (by decide) (act_all (by decide))).conv (by
      show [rD1gtR src m k tl ll nl loc nm v B2 nd5 nd6 nd8 nd9 B14_13 B14_9 B14_4 B14_2 B14 nd17 nd18 nd19 nd20 nd21 nd22 nd23 nd24 B25_1 B25 (fun k => decide (k < 11)) α 999, rD1gtR src m k tl ll nl loc nm v B2 nd5 nd6 nd8 nd9 B14_13 B14_9 B14_4 B14_2 B14 nd17 nd18 nd19 nd20 nd21 nd22 nd23 nd24 B25_1 B25 (fun k => decide (k < 11)) α 1999, rD1gtR src m k tl ll nl loc nm v B2 nd5 nd6 nd8 nd9 B14_13 B14_9 B14_4 B14_2 B14 nd17 nd18 nd19 nd20 nd21 nd22 nd23 nd24 B25_1 B25 (fun k => decide (k < 11)) α 2999, rD1gtR src m k tl ll nl loc nm v B2 nd5 nd6 nd8 nd9 B14_13 B14_9 B14_4 B14_2 B14 nd17 nd18 nd19 nd20 nd21 nd22 nd23 nd24 B25_1 B25 (fun k => decide (k < 11)) α 3999, rD1gtR src m k tl ll nl loc nm v B2 nd5 nd6 nd8 nd9 B14_13 B14_9 B14_4 B14_2 B14 nd17 nd18 nd19 nd20 nd21 nd22 nd23 nd24 B25_1 B25 (fun k => decide (k < 11)) α 4999, rD1gtR src m k tl ll nl loc nm v B2 nd5 nd6 nd8 nd9 B14_13 B14_9 B14_4 B14_2 B14 nd17 nd18 nd19 nd20 nd21 nd22 nd23 nd24 B25_1 B25 (fun k => decide (k < 11)) α 5999, rD1gtR src m k tl ll nl loc nm v B2 nd5 nd6 nd8 nd9 B14_13 B14_9 B14_4 B14_2 B14 nd17 nd18 nd19 nd20 nd21 nd22 nd23 nd24 B25_1 B25 (fun k => decide (k < 11)) α 6999, rD1gtR src m k tl ll nl loc nm v B2 nd5 nd6 nd8 nd9 B14_13 B14_9 B14_4 B14_2 B14 nd17 nd18 nd19 nd20 nd21 nd22 nd23 nd24 B25_1 B25 (fun k => decide (k < 11)) α 7999, rD1gtR src m k tl ll nl loc nm v B2 nd5 nd6 nd8 nd9 B14_13 B14_9 B14_4 B14_2 B14 nd17 nd18 nd19 nd20 nd21 nd22 nd23 nd24 B25_1 B25 (fun k => decide (k < 11)) α 8999, rD1gtR src m k tl ll nl loc nm v B2 nd5 nd6 nd8 nd9 B14_13 B14_9 B14_4 B14_2 B14 nd17 nd18 nd19 nd20 nd21 nd22 nd23 nd24 B25_1 B25 (fun k => decide (k < 11)) α 9999, rD1gtR src m k tl ll nl loc nm v B2 nd5 nd6 nd8 nd9 B14_13 B14_9 B14_4 B14_2 B14 nd17 nd18 nd19 nd20 nd21 nd22 nd23 nd24 B25_1 B25 (fun k => decide (k < 11)) α 10999, rD1gtR src m k tl ll nl loc nm v B2 nd5 nd6 nd8 nd9 B14_13 B14_9 B14_4 B14_2 B14 nd17 nd18 nd19 nd20 nd21 nd22 nd23 nd24 B25_1 B25 (fun k => decide (k < 11)) α 11999, rD1gtR src m k tl ll nl loc nm v B2 nd5 nd6 nd8 nd9 B14_13 B14_9 B14_4 B14_2 B14 nd17 nd18 nd19 nd20 nd21 nd22 nd23 nd24 B25_1 B25 (fun k => decide (k < 11)) α 12999, rD1gtR src m k tl ll nl loc nm v B2 nd5 nd6 nd8 nd9 B14_13 B14_9 B14_4 B14_2 B14 nd17 nd18 nd19 nd20 nd21 nd22 nd23 nd24 B25_1 B25 (fun k => decide (k < 11)) α 13999, rD1gtR src m k tl ll nl loc nm v B2 nd5 nd6 nd8 nd9 B14_13 B14_9 B14_4 B14_2 B14 nd17 nd18 nd19 nd20 nd21 nd22 nd23 nd24 B25_1 B25 (fun k => decide (k < 11)) α 14999, rD1gtR src m k tl ll nl loc nm v B2 nd5 nd6 nd8 nd9 B14_13 B14_9 B14_4 B14_2 B14 nd17 nd18 nd19 nd20 nd21 nd22 nd23 nd24 B25_1 B25 (fun k => decide (k < 11)) α 15999, rD1gtR src m k tl ll nl loc nm v B2 nd5 nd6 nd8 nd9 B14_13 B14_9 B14_4 B14_2 B14 nd17 nd18 nd19 nd20 nd21 nd22 nd23 nd24 B25_1 B25 (fun k => decide (k < 11)) α 16999, rD1gtR src m k tl ll nl loc nm v B2 nd5 nd6 nd8 nd9 B14_13 B14_9 B14_4 B14_2 B14 nd17 nd18 nd19 nd20 nd21 nd22 nd23 nd24 B25_1 B25 (fun k => decide (k < 11)) α 17999] = _
      rw [e0, e1, e2, e3, e4, e5, e6, e7, e8, e9, e10, e11, e12, e13, e14, e15, e16, e17])
    clear hG e0 e1 e2 e3 e4 e5 e6 e7 e8 e9 e10 e11 e12 e13 e14 e15 e16 e17
    generalize hfr : Rega.frameAt _ _ _ _ _ = fr
    have hdf : fr = ⟨#[.int .u64 x, .int .u32 src, .int .u32 (m : Int), .int .u32 (k : Int), .int .i32 tl, .int .i32 ll, .int .i32 nl, .int .i32 loc, .string nm, .float .f64 v, undef, undef, undef, undef, undef, undef, undef, undef, undef, undef, .bool false, .int .i64 ((m : Int) + 1), .pointer (some ⟨B2, 0, none⟩), .pointer (some ⟨nd5, 0, none⟩), .pointer (some ⟨B14, 0, none⟩), .pointer (some ⟨B14_10, 0, none⟩), .pointer (some ⟨B14_14, 0, none⟩), .pointer (some ⟨B14_9, 0, none⟩), .pointer (some ⟨B14_13, 0, none⟩), .pointer (some ⟨B14_17, 0, none⟩), .pointer (some ⟨B25, 0, none⟩), .pointer (some ⟨nd17, 0, none⟩), .pointer (some ⟨nd21, 0, none⟩), undef, undef, .int .u64 x, .int .u32 src, .int .u32 (m : Int), .int .u32 (k : Int), .int .i32 tl, .int .i32 ll, .int .i32 nl, .int .i32 loc, .string nm, .float .f64 v, .bool true, .bool false, .string nm, .int .i64 (nm.size : Int), .bool (decide (1048576 < (nm.size : Int))), .int .u32 (m : Int), .bool (decide (65536 < (m : Int))), .bool (decide (65536 < (m : Int))), .int .u32 (k : Int), .bool (decide (65536 < (k : Int))), .bool (decide (65536 < (m : Int)) || decide (65536 < (k : Int))), .int .u32 (m : Int), .int .i64 (m : Int), .int .i64 ((m : Int) + 1), .int .u32 (k : Int), .int .i64 (k : Int), .int .i64 ((k : Int) + 1), .int .i64 ((m : Int) + 1), .bool false, undef, undef, undef, .int .u32 (k : Int), .agg #[.int .u32 0, .int .u32 (k : Int)], .int .u64 x, .int .i64 ((m : Int) + 1), .agg #[.int .u32 0, .int .u32 (k : Int)], .pointer (some ⟨nd5, 0, none⟩), .int .u32 src, .int .u32 (m : Int), .agg #[.int .u32 src, .int .u32 (m : Int)], .int .i32 ll, .agg #[.int .i32 ll], .int .i32 tl, .agg #[.int .i32 tl], .agg #[.int .u32 src, .int .u32 (m : Int)], .agg #[.iface 55 (.pointer (some ⟨B14_4, 0, none⟩)), .int .i32 tl], .string nm, .int .i32 nl, .agg #[.int .i32 nl], .agg #[.iface 81 (.pointer (some ⟨B14_9, 0, none⟩)), .int .i32 ll], .int .i32 loc, .agg #[.int .i32 loc], .float .f64 v, .agg #[.iface 36 (.pointer (some ⟨B14_13, 0, none⟩)), .int .i32 loc], .agg #[.iface 81 (.pointer (some ⟨B14_9, 0, none⟩)), .int .i32 ll], .pointer (some ⟨B14_9, 0, none⟩), .agg #[.iface 36 (.pointer (some ⟨B14_13, 0, none⟩)), .int .i32 loc], .pointer (some ⟨B14_13, 0, none⟩), .agg #[.iface 81 (.pointer (some ⟨B14_9, 0, none⟩)), .int .i32 ll], .agg #[.iface 36 (.pointer (some ⟨B14_13, 0, none⟩)), .int .i32 loc], .agg #[.iface 81 (.pointer (some ⟨B14_9, 0, none⟩)), .int .i32 ll, .iface 36 (.pointer (some ⟨B14_13, 0, none⟩)), .int .i32 loc, .int .u8 0, .bool false], .pointer (some ⟨B14_17, 0, none⟩), .pointer (some ⟨nd5, 0, none⟩), .int .i32 loc, .agg #[.int .i32 loc], .pointer (some ⟨B14_17, 0, none⟩), .agg #[.iface 41 (.pointer (some ⟨nd17, 0, none⟩)), .int .i32 ll], .agg #[.iface 41 (.pointer (some ⟨nd17, 0, none⟩)), .int .i32 ll], .pointer (some ⟨nd17, 0, none⟩), .pointer (some ⟨nd17, 0, none⟩), .bool false, .bool false, .pointer (some ⟨nd17, 0, none⟩), .pointer (some ⟨nd17, 0, none⟩), .pointer (some ⟨nd17, 4, none⟩), .int .u8 37, .bool false, .bool false, .pointer (some ⟨nd17, 0, none⟩), .pointer (some ⟨nd17, 0, none⟩), .pointer (some ⟨nd17, 0, none⟩), .agg #[.iface 81 (.pointer (some ⟨nd21, 0, none⟩)), .int .i32 ll], .int .i32 ll, .agg #[.int .u32 src, .int .u32 (m : Int)], .string nm, .int .i32 nl, .pointer (some ⟨B14_9, 0, none⟩), .pointer (some ⟨nd21, 0, none⟩), undef, undef, undef, undef, undef, undef, undef, undef, undef, undef, undef, undef, undef, undef, undef, undef, undef, undef, undef, undef, undef, undef, undef, undef, undef, undef, undef, undef, undef, undef, undef, undef, undef, undef, undef, undef, undef, undef, undef, undef, undef, undef, undef, undef, undef, undef, undef, undef, undef, undef, undef, undef, undef, undef, undef, undef, undef, undef, undef, undef, undef, undef, undef, undef, undef, undef, undef, undef, undef, undef, undef, undef, undef, undef, undef, undef, undef, undef, undef, undef, undef, undef, undef, undef, undef, undef, undef, undef, undef, undef, undef, undef, undef, undef, undef, undef, undef, undef, undef, undef, undef, undef, undef, undef], []⟩ := by rw [← hfr]; kernel_rfl
    clear hfr
    subst hdf
    clear α
    have pl9_4 : Base.plainAt u (B14_9) = true := hO.plain 4 rfl
    have pl9_10 : Base.plainAt u (nd21) = true := hO.plain 10 rfl
    have pl9_11 : Base.plainAt u (nd22) = true := hO.plain 11 rfl
    have pl9_12 : Base.plainAt u (nd23) = true := hO.plain 12 rfl
    have pl9_13 : Base.plainAt u (nd24) = true := hO.plain 13 rfl
    have ne9_4_10 : ¬ B14_9 = nd21 := hO.ne 4 10 rfl rfl (by decide)
    have ne9_4_11 : ¬ B14_9 = nd22 := hO.ne 4 11 rfl rfl (by decide)
    have ne9_10_4 : ¬ nd21 = B14_9 := hO.ne 10 4 rfl rfl (by decide)
    have ne9_10_11 : ¬ nd21 = nd22 := hO.ne 10 11 rfl rfl (by decide)
    have ne9_11_4 : ¬ nd22 = B14_9 := hO.ne 11 4 rfl rfl (by decide)
    have ne9_11_10 : ¬ nd22 = nd21 := hO.ne 11 10 rfl rfl (by decide)
    have ne9_12_13 : ¬ nd23 = nd24 := hO.ne 12 13 rfl rfl (by decide)
    have ne9_13_12 : ¬ nd24 = nd23 := hO.ne 13 12 rfl rfl (by decide)
    have c9_0_0 : u.cell? ⟨B25_1, 0, none⟩ = some (.iface 41 (.pointer (some ⟨nd17, 0, none⟩))) := hO.cell 0 rfl 0 rfl
    have c9_0_1 : u.cell? ⟨B25_1, 1, none⟩ = some (.int .i32 ll) := hO.cell 0 rfl 1 rfl
    have lt9_0 : B25_1 < u.heap.size := hO.lt 0 rfl
    have y9_0 : ∀ o, u.frozen? ⟨B25_1, o, none⟩ = false := hO.free 0 rfl
    have c9_1_0 : u.cell? ⟨B25, 0, none⟩ = some (.iface 41 (.pointer (some ⟨nd17, 0, none⟩))) := hO.cell 1 rfl 0 rfl
    have c9_1_1 : u.cell? ⟨B25, 1, none⟩ = some (.int .i32 ll) := hO.cell 1 rfl 1 rfl
    have lt9_1 : B25 < u.heap.size := hO.lt 1 rfl
    have y9_1 : ∀ o, u.frozen? ⟨B25, o, none⟩ = false := hO.free 1 rfl
    have c9_4_0 : u.cell? ⟨B14_9, 0, none⟩ = some (.iface 55 (.pointer (some ⟨B14_4, 0, none⟩))) := hO.cell 4 rfl 0 rfl
    have c9_4_1 : u.cell? ⟨B14_9, 1, none⟩ = some (.int .i32 tl) := hO.cell 4 rfl 1 rfl
    have c9_4_2 : u.cell? ⟨B14_9, 2, none⟩ = some (.string nm) := hO.cell 4 rfl 2 rfl
    have c9_4_3 : u.cell? ⟨B14_9, 3, none⟩ = some (.int .i32 nl) := hO.cell 4 rfl 3 rfl
    have c9_4_4 : u.cell? ⟨B14_9, 4, none⟩ = some (.int .u8 0) := hO.cell 4 rfl 4 rfl
    have c9_4_5 : u.cell? ⟨B14_9, 5, none⟩ = some (.bool false) := hO.cell 4 rfl 5 rfl
    have c9_4_6 : u.cell? ⟨B14_9, 6, none⟩ = some (.bool false) := hO.cell 4 rfl 6 rfl
    have c9_4_7 : u.cell? ⟨B14_9, 7, none⟩ = some (.bool false) := hO.cell 4 rfl 7 rfl
    have lt9_4 : B14_9 < u.heap.size := hO.lt 4 rfl
    have y9_4 : ∀ o, u.frozen? ⟨B14_9, o, none⟩ = false := hO.free 4 rfl
    have c9_5_0 : u.cell? ⟨B14_4, 0, none⟩ = some (.int .u32 src) := hO.cell 5 rfl 0 rfl
    have c9_5_1 : u.cell? ⟨B14_4, 1, none⟩ = some (.int .u32 (m : Int)) := hO.cell 5 rfl 1 rfl
    have c9_5_2 : u.cell? ⟨B14_4, 2, none⟩ = some (.bool false) := hO.cell 5 rfl 2 rfl
    have c9_5_3 : u.cell? ⟨B14_4, 3, none⟩ = some (.bool false) := hO.cell 5 rfl 3 rfl
    have c9_5_4 : u.cell? ⟨B14_4, 4, none⟩ = some (.bool false) := hO.cell 5 rfl 4 rfl
    have lt9_5 : B14_4 < u.heap.size := hO.lt 5 rfl
    have y9_5 : ∀ o, u.frozen? ⟨B14_4, o, none⟩ = false := hO.free 5 rfl
    have c9_6_0 : u.cell? ⟨nd17, 0, none⟩ = some (.iface 81 (.pointer (some ⟨nd21, 0, none⟩))) := hO.cell 6 rfl 0 rfl
    have c9_6_1 : u.cell? ⟨nd17, 1, none⟩ = some (.int .i32 ll) := hO.cell 6 rfl 1 rfl
    have c9_6_2 : u.cell? ⟨nd17, 2, none⟩ = some (.iface 72 (.pointer (some ⟨nd18, 0, none⟩))) := hO.cell 6 rfl 2 rfl
    have c9_6_3 : u.cell? ⟨nd17, 3, none⟩ = some (.int .i32 loc) := hO.cell 6 rfl 3 rfl
    have c9_6_4 : u.cell? ⟨nd17, 4, none⟩ = some (.int .u8 37) := hO.cell 6 rfl 4 rfl
    have c9_6_5 : u.cell? ⟨nd17, 5, none⟩ = some (.bool false) := hO.cell 6 rfl 5 rfl
    have lt9_6 : nd17 < u.heap.size := hO.lt 6 rfl
    have y9_6 : ∀ o, u.frozen? ⟨nd17, o, none⟩ = false := hO.free 6 rfl
    have c9_7_0 : u.cell? ⟨nd18, 0, none⟩ = some (.iface 55 (.pointer (some ⟨nd19, 0, none⟩))) := hO.cell 7 rfl 0 rfl
    have c9_7_1 : u.cell? ⟨nd18, 1, none⟩ = some (.int .i32 loc) := hO.cell 7 rfl 1 rfl
    have c9_7_2 : u.cell? ⟨nd18, 2, none⟩ = some (.slice (some ⟨nd20, 0, none⟩) 2 2) := hO.cell 7 rfl 2 rfl
    have c9_7_3 : u.cell? ⟨nd18, 3, none⟩ = some (.int .i32 0) := hO.cell 7 rfl 3 rfl
    have c9_7_4 : u.cell? ⟨nd18, 4, none⟩ = some (.int .u8 0) := hO.cell 7 rfl 4 rfl
    have c9_7_5 : u.cell? ⟨nd18, 5, none⟩ = some (.int .u8 0) := hO.cell 7 rfl 5 rfl
    have c9_7_6 : u.cell? ⟨nd18, 6, none⟩ = some (.bool false) := hO.cell 7 rfl 6 rfl
    have c9_7_7 : u.cell? ⟨nd18, 7, none⟩ = some (.bool false) := hO.cell 7 rfl 7 rfl
    have lt9_7 : nd18 < u.heap.size := hO.lt 7 rfl
    have y9_7 : ∀ o, u.frozen? ⟨nd18, o, none⟩ = false := hO.free 7 rfl
    have c9_8_0 : u.cell? ⟨nd19, 0, none⟩ = some (.int .u32 0) := hO.cell 8 rfl 0 rfl
    have c9_8_1 : u.cell? ⟨nd19, 1, none⟩ = some (.int .u32 (k : Int)) := hO.cell 8 rfl 1 rfl
    have c9_8_2 : u.cell? ⟨nd19, 2, none⟩ = some (.bool false) := hO.cell 8 rfl 2 rfl
    have c9_8_3 : u.cell? ⟨nd19, 3, none⟩ = some (.bool false) := hO.cell 8 rfl 3 rfl
    have c9_8_4 : u.cell? ⟨nd19, 4, none⟩ = some (.bool false) := hO.cell 8 rfl 4 rfl
    have lt9_8 : nd19 < u.heap.size := hO.lt 8 rfl
    have y9_8 : ∀ o, u.frozen? ⟨nd19, o, none⟩ = false := hO.free 8 rfl
    have c9_9_0 : u.cell? ⟨nd20, 0, none⟩ = some (.iface 81 (.pointer (some ⟨nd22, 0, none⟩))) := hO.cell 9 rfl 0 rfl
    have c9_9_1 : u.cell? ⟨nd20, 1, none⟩ = some (.int .i32 ll) := hO.cell 9 rfl 1 rfl
    have c9_9_2 : u.cell? ⟨nd20, 2, none⟩ = some (.iface 36 (.pointer (some ⟨B14_13, 0, none⟩))) := hO.cell 9 rfl 2 rfl
    have c9_9_3 : u.cell? ⟨nd20, 3, none⟩ = some (.int .i32 loc) := hO.cell 9 rfl 3 rfl
    have lt9_9 : nd20 < u.heap.size := hO.lt 9 rfl
    have y9_9 : ∀ o, u.frozen? ⟨nd20, o, none⟩ = false := hO.free 9 rfl
    have c9_10_0 : u.cell? ⟨nd21, 0, none⟩ = some (.iface 55 (.pointer (some ⟨nd23, 0, none⟩))) := hO.cell 10 rfl 0 rfl
    have c9_10_1 : u.cell? ⟨nd21, 1, none⟩ = some (.int .i32 ll) := hO.cell 10 rfl 1 rfl
    have c9_10_2 : u.cell? ⟨nd21, 2, none⟩ = some (.string nm) := hO.cell 10 rfl 2 rfl
    have c9_10_3 : u.cell? ⟨nd21, 3, none⟩ = some (.int .i32 nl) := hO.cell 10 rfl 3 rfl
    have c9_10_4 : u.cell? ⟨nd21, 4, none⟩ = some (.int .u8 0) := hO.cell 10 rfl 4 rfl
    have c9_10_5 : u.cell? ⟨nd21, 5, none⟩ = some (.bool false) := hO.cell 10 rfl 5 rfl
    have c9_10_6 : u.cell? ⟨nd21, 6, none⟩ = some (.bool false) := hO.cell 10 rfl 6 rfl
    have c9_10_7 : u.cell? ⟨nd21, 7, none⟩ = some (.bool false) := hO.cell 10 rfl 7 rfl
    have lt9_10 : nd21 < u.heap.size := hO.lt 10 rfl
    have y9_10 : ∀ o, u.frozen? ⟨nd21, o, none⟩ = false := hO.free 10 rfl
    have c9_11_0 : u.cell? ⟨nd22, 0, none⟩ = some (.iface 55 (.pointer (some ⟨nd24, 0, none⟩))) := hO.cell 11 rfl 0 rfl
    have c9_11_1 : u.cell? ⟨nd22, 1, none⟩ = some (.int .i32 ll) := hO.cell 11 rfl 1 rfl
    have c9_11_2 : u.cell? ⟨nd22, 2, none⟩ = some (.string nm) := hO.cell 11 rfl 2 rfl
    have c9_11_3 : u.cell? ⟨nd22, 3, none⟩ = some (.int .i32 nl) := hO.cell 11 rfl 3 rfl
    have c9_11_4 : u.cell? ⟨nd22, 4, none⟩ = some (.int .u8 0) := hO.cell 11 rfl 4 rfl
    have c9_11_5 : u.cell? ⟨nd22, 5, none⟩ = some (.bool false) := hO.cell 11 rfl 5 rfl
    have c9_11_6 : u.cell? ⟨nd22, 6, none⟩ = some (.bool false) := hO.cell 11 rfl 6 rfl
    have c9_11_7 : u.cell? ⟨nd22, 7, none⟩ = some (.bool false) := hO.cell 11 rfl 7 rfl
    have lt9_11 : nd22 < u.heap.size := hO.lt 11 rfl
    have y9_11 : ∀ o, u.frozen? ⟨nd22, o, none⟩ = false := hO.free 11 rfl
    have c9_12_0 : u.cell? ⟨nd23, 0, none⟩ = some (.int .u32 src) := hO.cell 12 rfl 0 rfl
    have c9_12_1 : u.cell? ⟨nd23, 1, none⟩ = some (.int .u32 (m : Int)) := hO.cell 12 rfl 1 rfl
    have c9_12_2 : u.cell? ⟨nd23, 2, none⟩ = some (.bool false) := hO.cell 12 rfl 2 rfl
    have c9_12_3 : u.cell? ⟨nd23, 3, none⟩ = some (.bool false) := hO.cell 12 rfl 3 rfl
    have c9_12_4 : u.cell? ⟨nd23, 4, none⟩ = some (.bool false) := hO.cell 12 rfl 4 rfl
    have lt9_12 : nd23 < u.heap.size := hO.lt 12 rfl
    have y9_12 : ∀ o, u.frozen? ⟨nd23, o, none⟩ = false := hO.free 12 rfl
    have c9_13_0 : u.cell? ⟨nd24, 0, none⟩ = some (.int .u32 src) := hO.cell 13 rfl 0 rfl
    have c9_13_1 : u.cell? ⟨nd24, 1, none⟩ = some (.int .u32 (m : Int)) := hO.cell 13 rfl 1 rfl
    have c9_13_2 : u.cell? ⟨nd24, 2, none⟩ = some (.bool false) := hO.cell 13 rfl 2 rfl
    have c9_13_3 : u.cell? ⟨nd24, 3, none⟩ = some (.bool false) := hO.cell 13 rfl 3 rfl
    have c9_13_4 : u.cell? ⟨nd24, 4, none⟩ = some (.bool false) := hO.cell 13 rfl 4 rfl
    have lt9_13 : nd24 < u.heap.size := hO.lt 13 rfl
    have y9_13 : ∀ o, u.frozen? ⟨nd24, o, none⟩ = false := hO.free 13 rfl
    have c9_14_0 : u.cell? ⟨B14_13, 0, none⟩ = some (.float .f64 v) := hO.cell 14 rfl 0 rfl
    have lt9_14 : B14_13 < u.heap.size := hO.lt 14 rfl
    have y9_14 : ∀ o, u.frozen? ⟨B14_13, o, none⟩ = false := hO.free 14 rfl
    have c9_15_0 : u.cell? ⟨B14_2, 0, none⟩ = some (.int .u32 src) := hO.cell 15 rfl 0 rfl
    have c9_15_1 : u.cell? ⟨B14_2, 1, none⟩ = some (.int .u32 (m : Int)) := hO.cell 15 rfl 1 rfl
    have lt9_15 : B14_2 < u.heap.size := hO.lt 15 rfl
    have y9_15 : ∀ o, u.frozen? ⟨B14_2, o, none⟩ = false := hO.free 15 rfl
    have c9_16_0 : u.cell? ⟨B14, 0, none⟩ = some (.int .u32 src) := hO.cell 16 rfl 0 rfl
    have c9_16_1 : u.cell? ⟨B14, 1, none⟩ = some (.int .u32 (m : Int)) := hO.cell 16 rfl 1 rfl
    have lt9_16 : B14 < u.heap.size := hO.lt 16 rfl
    have y9_16 : ∀ o, u.frozen? ⟨B14, o, none⟩ = false := hO.free 16 rfl
    have c9_17_0 : u.cell? ⟨B2, 0, none⟩ = some (.int .u32 0) := hO.cell 17 rfl 0 rfl
    have c9_17_1 : u.cell? ⟨B2, 1, none⟩ = some (.int .u32 (k : Int)) := hO.cell 17 rfl 1 rfl
    have lt9_17 : B2 < u.heap.size := hO.lt 17 rfl
    have y9_17 : ∀ o, u.frozen? ⟨B2, o, none⟩ = false := hO.free 17 rfl
    have HO := Lib.hid hO
    clear hO
    go_wp2_with (first | (go_at_call 19; go_in) | (go_at_call 11; go_in) | (go_at_call 31; go_in) | (go_at_call 32; go_in) | (go_at_call 12; go_in) | (go_at_call 15; go_in) | (go_at_call 29; go_in) | (go_at_call 20; go_in))
    have hO := HO.out
    clear HO pl9_4 pl9_10 pl9_11 pl9_12 pl9_13 ne9_4_10 ne9_4_11 ne9_10_4 ne9_10_11 ne9_11_4 ne9_11_10 ne9_12_13 ne9_13_12 c9_0_0 c9_0_1 lt9_0 y9_0 c9_1_0 c9_1_1 lt9_1 y9_1 c9_4_0 c9_4_1 c9_4_2 c9_4_3 c9_4_4 c9_4_5 c9_4_6 c9_4_7 lt9_4 y9_4 c9_5_0 c9_5_1 c9_5_2 c9_5_3 c9_5_4 lt9_5 y9_5 c9_6_0 c9_6_1 c9_6_2 c9_6_3 c9_6_4 c9_6_5 lt9_6 y9_6 c9_7_0 c9_7_1 c9_7_2 c9_7_3 c9_7_4 c9_7_5 c9_7_6 c9_7_7 lt9_7 y9_7 c9_8_0 c9_8_1 c9_8_2 c9_8_3 c9_8_4 lt9_8 y9_8 c9_9_0 c9_9_1 c9_9_2 c9_9_3 lt9_9 y9_9 c9_10_0 c9_10_1 c9_10_2 c9_10_3 c9_10_4 c9_10_5 c9_10_6 c9_10_7 lt9_10 y9_10 c9_11_0 c9_11_1 c9_11_2 c9_11_3 c9_11_4 c9_11_5 c9_11_6 c9_11_7 lt9_11 y9_11 c9_12_0 c9_12_1 c9_12_2 c9_12_3 c9_12_4 lt9_12 y9_12 c9_13_0 c9_13_1 c9_13_2 c9_13_3 c9_13_4 lt9_13 y9_13 c9_14_0 lt9_14 y9_14 c9_15_0 c9_15_1 lt9_15 y9_15 c9_16_0 c9_16_1 lt9_16 y9_16 c9_17_0 c9_17_1 lt9_17 y9_17
    generalize hW : World.alloc _ _ = W28
    have hN : Own w0 W28 [row (u.heap.size) 34 #[.iface 72 (.pointer (some ⟨nd18, 0, none⟩)), .int .i32 loc], row (B25_1) 34 #[.iface 41 (.pointer (some ⟨nd17, 0, none⟩)), .int .i32 ll], row (B25) 34 #[.iface 41 (.pointer (some ⟨nd17, 0, none⟩)), .int .i32 ll], row (nd5) 207 nd8, row (nd6) 223 (bumped (bumped (bumped nd9 m (0 : Nat)) m (1 : Nat)) k (0 : Nat)), row (B14_9) 85 #[.iface 55 (.pointer (some ⟨B14_4, 0, none⟩)), .int .i32 tl, .string nm, .int .i32 nl, .int .u8 0, .bool false, .bool false, .bool false], row (B14_4) 214 #[.int .u32 src, .int .u32 (m : Int), .bool false, .bool false, .bool false], row (nd17) 47 #[.iface 81 (.pointer (some ⟨nd21, 0, none⟩)), .int .i32 ll, .iface 72 (.pointer (some ⟨nd18, 0, none⟩)), .int .i32 loc, .int .u8 37, .bool false], row (nd18) 77 #[.iface 55 (.pointer (some ⟨nd19, 0, none⟩)), .int .i32 loc, .slice (some ⟨nd20, 0, none⟩) 2 2, .int .i32 0, .int .u8 0, .int .u8 0, .bool false, .bool false], row (nd19) 214 #[.int .u32 0, .int .u32 (k : Int), .bool false, .bool false, .bool false], row (nd20) 34 #[.iface 81 (.pointer (some ⟨nd22, 0, none⟩)), .int .i32 ll, .iface 36 (.pointer (some ⟨B14_13, 0, none⟩)), .int .i32 loc], row (nd21) 85 #[.iface 55 (.pointer (some ⟨nd23, 0, none⟩)), .int .i32 ll, .string nm, .int .i32 nl, .int .u8 0, .bool false, .bool false, .bool false], row (nd22) 85 #[.iface 55 (.pointer (some ⟨nd24, 0, none⟩)), .int .i32 ll, .string nm, .int .i32 nl, .int .u8 0, .bool false, .bool false, .bool false], row (nd23) 214 #[.int .u32 src, .int .u32 (m : Int), .bool false, .bool false, .bool false], row (nd24) 214 #[.int .u32 src, .int .u32 (m : Int), .bool false, .bool false, .bool false], row (B14_13) 50 #[.float .f64 v], row (B14_2) 28 #[.int .u32 src, .int .u32 (m : Int)], row (B14) 28 #[.int .u32 src, .int .u32 (m : Int)], row (B2) 28 #[.int .u32 0, .int .u32 (k : Int)]] X := by
      rw [← hW]
      exact (hO).alloc' _ (u.heap.size) (by simp)
    clear hW hO
    generalize u.heap.size = B27 at hN ⊢
    have hO := hN
    clear hN
    have kq9_0_0 := cell_regrown (show W28.cell? ⟨B27, 0, none⟩ = some (.iface 72 (.pointer (some ⟨nd18, 0, none⟩))) from hO.cell 0 rfl 0 (rfl))
    have kq9_0_1 := cell_regrown (show W28.cell? ⟨B27, 1, none⟩ = some (.int .i32 loc) from hO.cell 0 rfl 1 (rfl))
    have kq9_1_0 := cell_regrown (show W28.cell? ⟨B25_1, 0, none⟩ = some (.iface 41 (.pointer (some ⟨nd17, 0, none⟩))) from hO.cell 1 rfl 0 (rfl))
    have kq9_1_1 := cell_regrown (show W28.cell? ⟨B25_1, 1, none⟩ = some (.int .i32 ll) from hO.cell 1 rfl 1 (rfl))
    have kq9_2_0 := cell_regrown (show W28.cell? ⟨B25, 0, none⟩ = some (.iface 41 (.pointer (some ⟨nd17, 0, none⟩))) from hO.cell 2 rfl 0 (rfl))
    have kq9_2_1 := cell_regrown (show W28.cell? ⟨B25, 1, none⟩ = some (.int .i32 ll) from hO.cell 2 rfl 1 (rfl))
    have kq9_5_0 := cell_regrown (show W28.cell? ⟨B14_9, 0, none⟩ = some (.iface 55 (.pointer (some ⟨B14_4, 0, none⟩))) from hO.cell 5 rfl 0 (rfl))
    have kq9_5_1 := cell_regrown (show W28.cell? ⟨B14_9, 1, none⟩ = some (.int .i32 tl) from hO.cell 5 rfl 1 (rfl))
    have kq9_5_2 := cell_regrown (show W28.cell? ⟨B14_9, 2, none⟩ = some (.string nm) from hO.cell 5 rfl 2 (rfl))
    have kq9_5_3 := cell_regrown (show W28.cell? ⟨B14_9, 3, none⟩ = some (.int .i32 nl) from hO.cell 5 rfl 3 (rfl))
    have kq9_5_4 := cell_regrown (show W28.cell? ⟨B14_9, 4, none⟩ = some (.int .u8 0) from hO.cell 5 rfl 4 (rfl))
    have kq9_5_5 := cell_regrown (show W28.cell? ⟨B14_9, 5, none⟩ = some (.bool false) from hO.cell 5 rfl 5 (rfl))
    have kq9_5_6 := cell_regrown (show W28.cell? ⟨B14_9, 6, none⟩ = some (.bool false) from hO.cell 5 rfl 6 (rfl))
    have kq9_5_7 := cell_regrown (show W28.cell? ⟨B14_9, 7, none⟩ = some (.bool false) from hO.cell 5 rfl 7 (rfl))
    have kq9_6_0 := cell_regrown (show W28.cell? ⟨B14_4, 0, none⟩ = some (.int .u32 src) from hO.cell 6 rfl 0 (rfl))
    have kq9_6_1 := cell_regrown (show W28.cell? ⟨B14_4, 1, none⟩ = some (.int .u32 (m : Int)) from hO.cell 6 rfl 1 (rfl))
    have kq9_6_2 := cell_regrown (show W28.cell? ⟨B14_4, 2, none⟩ = some (.bool false) from hO.cell 6 rfl 2 (rfl))
    have kq9_6_3 := cell_regrown (show W28.cell? ⟨B14_4, 3, none⟩ = some (.bool false) from hO.cell 6 rfl 3 (rfl))
    have kq9_6_4 := cell_regrown (show W28.cell? ⟨B14_4, 4, none⟩ = some (.bool false) from hO.cell 6 rfl 4 (rfl))
    have kq9_7_0 := cell_regrown (show W28.cell? ⟨nd17, 0, none⟩ = some (.iface 81 (.pointer (some ⟨nd21, 0, none⟩))) from hO.cell 7 rfl 0 (rfl))
    have kq9_7_1 := cell_regrown (show W28.cell? ⟨nd17, 1, none⟩ = some (.int .i32 ll) from hO.cell 7 rfl 1 (rfl))
    have kq9_7_2 := cell_regrown (show W28.cell? ⟨nd17, 2, none⟩ = some (.iface 72 (.pointer (some ⟨nd18, 0, none⟩))) from hO.cell 7 rfl 2 (rfl))
    have kq9_7_3 := cell_regrown (show W28.cell? ⟨nd17, 3, none⟩ = some (.int .i32 loc) from hO.cell 7 rfl 3 (rfl))
    have kq9_7_4 := cell_regrown (show W28.cell? ⟨nd17, 4, none⟩ = some (.int .u8 37) from hO.cell 7 rfl 4 (rfl))
    have kq9_7_5 := cell_regrown (show W28.cell? ⟨nd17, 5, none⟩ = some (.bool false) from hO.cell 7 rfl 5 (rfl))
    have kq9_8_0 := cell_regrown (show W28.cell? ⟨nd18, 0, none⟩ = some (.iface 55 (.pointer (some ⟨nd19, 0, none⟩))) from hO.cell 8 rfl 0 (rfl))
    have kq9_8_1 := cell_regrown (show W28.cell? ⟨nd18, 1, none⟩ = some (.int .i32 loc) from hO.cell 8 rfl 1 (rfl))
    have kq9_8_2 := cell_regrown (show W28.cell? ⟨nd18, 2, none⟩ = some (.slice (some ⟨nd20, 0, none⟩) 2 2) from hO.cell 8 rfl 2 (rfl))
    have kq9_8_3 := cell_regrown (show W28.cell? ⟨nd18, 3, none⟩ = some (.int .i32 0) from hO.cell 8 rfl 3 (rfl))
    have kq9_8_4 := cell_regrown (show W28.cell? ⟨nd18, 4, none⟩ = some (.int .u8 0) from hO.cell 8 rfl 4 (rfl))
    have kq9_8_5 := cell_regrown (show W28.cell? ⟨nd18, 5, none⟩ = some (.int .u8 0) from hO.cell 8 rfl 5 (rfl))
    have kq9_8_6 := cell_regrown (show W28.cell? ⟨nd18, 6, none⟩ = some (.bool false) from hO.cell 8 rfl 6 (rfl))
    have kq9_8_7 := cell_regrown (show W28.cell? ⟨nd18, 7, none⟩ = some (.bool false) from hO.cell 8 rfl 7 (rfl))
    have kq9_9_0 := cell_regrown (show W28.cell? ⟨nd19, 0, none⟩ = some (.int .u32 0) from hO.cell 9 rfl 0 (rfl))
    have kq9_9_1 := cell_regrown (show W28.cell? ⟨nd19, 1, none⟩ = some (.int .u32 (k : Int)) from hO.cell 9 rfl 1 (rfl))
    have kq9_9_2 := cell_regrown (show W28.cell? ⟨nd19, 2, none⟩ = some (.bool false) from hO.cell 9 rfl 2 (rfl))
    have kq9_9_3 := cell_regrown (show W28.cell? ⟨nd19, 3, none⟩ = some (.bool false) from hO.cell 9 rfl 3 (rfl))
    have kq9_9_4 := cell_regrown (show W28.cell? ⟨nd19, 4, none⟩ = some (.bool false) from hO.cell 9 rfl 4 (rfl))
    have kq9_10_0 := cell_regrown (show W28.cell? ⟨nd20, 0, none⟩ = some (.iface 81 (.pointer (some ⟨nd22, 0, none⟩))) from hO.cell 10 rfl 0 (rfl))
    have kq9_10_1 := cell_regrown (show W28.cell? ⟨nd20, 1, none⟩ = some (.int .i32 ll) from hO.cell 10 rfl 1 (rfl))
    have kq9_10_2 := cell_regrown (show W28.cell? ⟨nd20, 2, none⟩ = some (.iface 36 (.pointer (some ⟨B14_13, 0, none⟩))) from hO.cell 10 rfl 2 (rfl))
    have kq9_10_3 := cell_regrown (show W28.cell? ⟨nd20, 3, none⟩ = some (.int .i32 loc) from hO.cell 10 rfl 3 (rfl))
    have kq9_11_0 := cell_regrown (show W28.cell? ⟨nd21, 0, none⟩ = some (.iface 55 (.pointer (some ⟨nd23, 0, none⟩))) from hO.cell 11 rfl 0 (rfl))
    have kq9_11_1 := cell_regrown (show W28.cell? ⟨nd21, 1, none⟩ = some (.int .i32 ll) from hO.cell 11 rfl 1 (rfl))
    have kq9_11_2 := cell_regrown (show W28.cell? ⟨nd21, 2, none⟩ = some (.string nm) from hO.cell 11 rfl 2 (rfl))
    have kq9_11_3 := cell_regrown (show W28.cell? ⟨nd21, 3, none⟩ = some (.int .i32 nl) from hO.cell 11 rfl 3 (rfl))
    have kq9_11_4 := cell_regrown (show W28.cell? ⟨nd21, 4, none⟩ = some (.int .u8 0) from hO.cell 11 rfl 4 (rfl))
    have kq9_11_5 := cell_regrown (show W28.cell? ⟨nd21, 5, none⟩ = some (.bool false) from hO.cell 11 rfl 5 (rfl))
    have kq9_11_6 := cell_regrown (show W28.cell? ⟨nd21, 6, none⟩ = some (.bool false) from hO.cell 11 rfl 6 (rfl))
    have kq9_11_7 := cell_regrown (show W28.cell? ⟨nd21, 7, none⟩ = some (.bool false) from hO.cell 11 rfl 7 (rfl))
    have kq9_12_0 := cell_regrown (show W28.cell? ⟨nd22, 0, none⟩ = some (.iface 55 (.pointer (some ⟨nd24, 0, none⟩))) from hO.cell 12 rfl 0 (rfl))
    have kq9_12_1 := cell_regrown (show W28.cell? ⟨nd22, 1, none⟩ = some (.int .i32 ll) from hO.cell 12 rfl 1 (rfl))
    have kq9_12_2 := cell_regrown (show W28.cell? ⟨nd22, 2, none⟩ = some (.string nm) from hO.cell 12 rfl 2 (rfl))
    have kq9_12_3 := cell_regrown (show W28.cell? ⟨nd22, 3, none⟩ = some (.int .i32 nl) from hO.cell 12 rfl 3 (rfl))
    have kq9_12_4 := cell_regrown (show W28.cell? ⟨nd22, 4, none⟩ = some (.int .u8 0) from hO.cell 12 rfl 4 (rfl))
    have kq9_12_5 := cell_regrown (show W28.cell? ⟨nd22, 5, none⟩ = some (.bool false) from hO.cell 12 rfl 5 (rfl))
    have kq9_12_6 := cell_regrown (show W28.cell? ⟨nd22, 6, none⟩ = some (.bool false) from hO.cell 12 rfl 6 (rfl))
    have kq9_12_7 := cell_regrown (show W28.cell? ⟨nd22, 7, none⟩ = some (.bool false) from hO.cell 12 rfl 7 (rfl))
    have kq9_13_0 := cell_regrown (show W28.cell? ⟨nd23, 0, none⟩ = some (.int .u32 src) from hO.cell 13 rfl 0 (rfl))
    have kq9_13_1 := cell_regrown (show W28.cell? ⟨nd23, 1, none⟩ = some (.int .u32 (m : Int)) from hO.cell 13 rfl 1 (rfl))
    have kq9_13_2 := cell_regrown (show W28.cell? ⟨nd23, 2, none⟩ = some (.bool false) from hO.cell 13 rfl 2 (rfl))
    have kq9_13_3 := cell_regrown (show W28.cell? ⟨nd23, 3, none⟩ = some (.bool false) from hO.cell 13 rfl 3 (rfl))
    have kq9_13_4 := cell_regrown (show W28.cell? ⟨nd23, 4, none⟩ = some (.bool false) from hO.cell 13 rfl 4 (rfl))
    have kq9_14_0 := cell_regrown (show W28.cell? ⟨nd24, 0, none⟩ = some (.int .u32 src) from hO.cell 14 rfl 0 (rfl))
    have kq9_14_1 := cell_regrown (show W28.cell? ⟨nd24, 1, none⟩ = some (.int .u32 (m : Int)) from hO.cell 14 rfl 1 (rfl))
    have kq9_14_2 := cell_regrown (show W28.cell? ⟨nd24, 2, none⟩ = some (.bool false) from hO.cell 14 rfl 2 (rfl))
    have kq9_14_3 := cell_regrown (show W28.cell? ⟨nd24, 3, none⟩ = some (.bool false) from hO.cell 14 rfl 3 (rfl))
    have kq9_14_4 := cell_regrown (show W28.cell? ⟨nd24, 4, none⟩ = some (.bool false) from hO.cell 14 rfl 4 (rfl))
    have kq9_15_0 := cell_regrown (show W28.cell? ⟨B14_13, 0, none⟩ = some (.float .f64 v) from hO.cell 15 rfl 0 (rfl))
    have kq9_16_0 := cell_regrown (show W28.cell? ⟨B14_2, 0, none⟩ = some (.int .u32 src) from hO.cell 16 rfl 0 (rfl))
    have kq9_16_1 := cell_regrown (show W28.cell? ⟨B14_2, 1, none⟩ = some (.int .u32 (m : Int)) from hO.cell 16 rfl 1 (rfl))
    have kq9_17_0 := cell_regrown (show W28.cell? ⟨B14, 0, none⟩ = some (.int .u32 src) from hO.cell 17 rfl 0 (rfl))
    have kq9_17_1 := cell_regrown (show W28.cell? ⟨B14, 1, none⟩ = some (.int .u32 (m : Int)) from hO.cell 17 rfl 1 (rfl))
    have kq9_18_0 := cell_regrown (show W28.cell? ⟨B2, 0, none⟩ = some (.int .u32 0) from hO.cell 18 rfl 0 (rfl))
    have kq9_18_1 := cell_regrown (show W28.cell? ⟨B2, 1, none⟩ = some (.int .u32 (k : Int)) from hO.cell 18 rfl 1 (rfl))
    have pl9_11 := plain_regrown (show Base.plainAt W28 (nd21) = true from hO.plain 11 rfl)
    have pl9_12 := plain_regrown (show Base.plainAt W28 (nd22) = true from hO.plain 12 rfl)
    have pl9_13 := plain_regrown (show Base.plainAt W28 (nd23) = true from hO.plain 13 rfl)
    have pl9_14 := plain_regrown (show Base.plainAt W28 (nd24) = true from hO.plain 14 rfl)
    have ne9_11_12 : ¬ nd21 = nd22 := hO.ne 11 12 rfl rfl (by decide)
    have ne9_12_11 : ¬ nd22 = nd21 := hO.ne 12 11 rfl rfl (by decide)
    have ne9_13_14 : ¬ nd23 = nd24 := hO.ne 13 14 rfl rfl (by decide)
    have ne9_14_13 : ¬ nd24 = nd23 := hO.ne 14 13 rfl rfl (by decide)
    have HO := Lib.hid hO
    clear hO
    refine wp_region_quiet_below (by kernel_rfl) (by kernel_rfl) ?_
    repeat (quiet_step (first | (go_at_call 23; exact Calls.regrown_of (identIs _ _ _ _ _ (kq9_9_0 _ _) (kq9_9_1 _ _))) | (go_at_call 20; exact Calls.regrown_of (asIdent _ _ _))))
    refine wpQuiet_nil ?_
    intro _ hw'
    obtain ⟨⟨dq, osq⟩, hw''⟩ := hw'
    subst hw''
    have hO := HO.out.step (below_regrown W28 dq osq)
    clear HO kq9_0_0 kq9_0_1 kq9_1_0 kq9_1_1 kq9_2_0 kq9_2_1 kq9_5_0 kq9_5_1 kq9_5_2 kq9_5_3 kq9_5_4 kq9_5_5 kq9_5_6 kq9_5_7 kq9_6_0 kq9_6_1 kq9_6_2 kq9_6_3 kq9_6_4 kq9_7_0 kq9_7_1 kq9_7_2 kq9_7_3 kq9_7_4 kq9_7_5 kq9_8_0 kq9_8_1 kq9_8_2 kq9_8_3 kq9_8_4 kq9_8_5 kq9_8_6 kq9_8_7 kq9_9_0 kq9_9_1 kq9_9_2 kq9_9_3 kq9_9_4 kq9_10_0 kq9_10_1 kq9_10_2 kq9_10_3 kq9_11_0 kq9_11_1 kq9_11_2 kq9_11_3 kq9_11_4 kq9_11_5 kq9_11_6 kq9_11_7 kq9_12_0 kq9_12_1 kq9_12_2 kq9_12_3 kq9_12_4 kq9_12_5 kq9_12_6 kq9_12_7 kq9_13_0 kq9_13_1 kq9_13_2 kq9_13_3 kq9_13_4 kq9_14_0 kq9_14_1 kq9_14_2 kq9_14_3 kq9_14_4 kq9_15_0 kq9_16_0 kq9_16_1 kq9_17_0 kq9_17_1 kq9_18_0 kq9_18_1 pl9_11 pl9_12 pl9_13 pl9_14 ne9_11_12 ne9_12_11 ne9_13_14 ne9_14_13
    generalize grow (redrawn W28 dq) osq = V29 at hO ⊢
    clear dq osq
    have hN : Own w0 V29 [row (nd5) 207 nd8, row (nd6) 223 (bumped (bumped (bumped nd9 m (0 : Nat)) m (1 : Nat)) k (0 : Nat)), row (B14_9) 85 #[.iface 55 (.pointer (some ⟨B14_4, 0, none⟩)), .int .i32 tl, .string nm, .int .i32 nl, .int .u8 0, .bool false, .bool false, .bool false], row (B14_4) 214 #[.int .u32 src, .int .u32 (m : Int), .bool false, .bool false, .bool false], row (nd17) 47 #[.iface 81 (.pointer (some ⟨nd21, 0, none⟩)), .int .i32 ll, .iface 72 (.pointer (some ⟨nd18, 0, none⟩)), .int .i32 loc, .int .u8 37, .bool false], row (nd18) 77 #[.iface 55 (.pointer (some ⟨nd19, 0, none⟩)), .int .i32 loc, .slice (some ⟨nd20, 0, none⟩) 2 2, .int .i32 0, .int .u8 0, .int .u8 0, .bool false, .bool false], row (nd19) 214 #[.int .u32 0, .int .u32 (k : Int), .bool false, .bool false, .bool false], row (nd20) 34 #[.iface 81 (.pointer (some ⟨nd22, 0, none⟩)), .int .i32 ll, .iface 36 (.pointer (some ⟨B14_13, 0, none⟩)), .int .i32 loc], row (nd21) 85 #[.iface 55 (.pointer (some ⟨nd23, 0, none⟩)), .int .i32 ll, .string nm, .int .i32 nl, .int .u8 0, .bool false, .bool false, .bool false], row (nd22) 85 #[.iface 55 (.pointer (some ⟨nd24, 0, none⟩)), .int .i32 ll, .string nm, .int .i32 nl, .int .u8 0, .bool false, .bool false, .bool false], row (nd23) 214 #[.int .u32 src, .int .u32 (m : Int), .bool false, .bool false, .bool false], row (nd24) 214 #[.int .u32 src, .int .u32 (m : Int), .bool false, .bool false, .bool false], row (B14_13) 50 #[.float .f64 v], row (B14_2) 28 #[.int .u32 src, .int .u32 (m : Int)], row (B14) 28 #[.int .u32 src, .int .u32 (m : Int)], row (B2) 28 #[.int .u32 0, .int .u32 (k : Int)]] X := hO.sub [3, 4, 5, 6, 7, 8, 9, 10, 11, 12, 13, 14, 15, 16, 17, 18] (by decide)
    clear hO
    have hO := hN
    clear hN
    have pl9_2 : Base.plainAt V29 (B14_9) = true := hO.plain 2 rfl
    have pl9_8 : Base.plainAt V29 (nd21) = true := hO.plain 8 rfl
    have pl9_9 : Base.plainAt V29 (nd22) = true := hO.plain 9 rfl
    have pl9_10 : Base.plainAt V29 (nd23) = true := hO.plain 10 rfl
    have pl9_11 : Base.plainAt V29 (nd24) = true := hO.plain 11 rfl
    have ne9_2_8 : ¬ B14_9 = nd21 := hO.ne 2 8 rfl rfl (by decide)
    have ne9_2_9 : ¬ B14_9 = nd22 := hO.ne 2 9 rfl rfl (by decide)
    have ne9_8_2 : ¬ nd21 = B14_9 := hO.ne 8 2 rfl rfl (by decide)
    have ne9_8_9 : ¬ nd21 = nd22 := hO.ne 8 9 rfl rfl (by decide)
    have ne9_9_2 : ¬ nd22 = B14_9 := hO.ne 9 2 rfl rfl (by decide)
    have ne9_9_8 : ¬ nd22 = nd21 := hO.ne 9 8 rfl rfl (by decide)
    have ne9_10_11 : ¬ nd23 = nd24 := hO.ne 10 11 rfl rfl (by decide)
    have ne9_11_10 : ¬ nd24 = nd23 := hO.ne 11 10 rfl rfl (by decide)
    have c9_2_0 : V29.cell? ⟨B14_9, 0, none⟩ = some (.iface 55 (.pointer (some ⟨B14_4, 0, none⟩))) := hO.cell 2 rfl 0 rfl
    have c9_2_1 : V29.cell? ⟨B14_9, 1, none⟩ = some (.int .i32 tl) := hO.cell 2 rfl 1 rfl
    have c9_2_2 : V29.cell? ⟨B14_9, 2, none⟩ = some (.string nm) := hO.cell 2 rfl 2 rfl
    have c9_2_3 : V29.cell? ⟨B14_9, 3, none⟩ = some (.int .i32 nl) := hO.cell 2 rfl 3 rfl
    have c9_2_4 : V29.cell? ⟨B14_9, 4, none⟩ = some (.int .u8 0) := hO.cell 2 rfl 4 rfl
    have c9_2_5 : V29.cell? ⟨B14_9, 5, none⟩ = some (.bool false) := hO.cell 2 rfl 5 rfl
    have c9_2_6 : V29.cell? ⟨B14_9, 6, none⟩ = some (.bool false) := hO.cell 2 rfl 6 rfl
    have c9_2_7 : V29.cell? ⟨B14_9, 7, none⟩ = some (.bool false) := hO.cell 2 rfl 7 rfl
    have lt9_2 : B14_9 < V29.heap.size := hO.lt 2 rfl
    have y9_2 : ∀ o, V29.frozen? ⟨B14_9, o, none⟩ = false := hO.free 2 rfl
    have c9_3_0 : V29.cell? ⟨B14_4, 0, none⟩ = some (.int .u32 src) := hO.cell 3 rfl 0 rfl
    have c9_3_1 : V29.cell? ⟨B14_4, 1, none⟩ = some (.int .u32 (m : Int)) := hO.cell 3 rfl 1 rfl
    have c9_3_2 : V29.cell? ⟨B14_4, 2, none⟩ = some (.bool false) := hO.cell 3 rfl 2 rfl
    have c9_3_3 : V29.cell? ⟨B14_4, 3, none⟩ = some (.bool false) := hO.cell 3 rfl 3 rfl
    have c9_3_4 : V29.cell? ⟨B14_4, 4, none⟩ = some (.bool false) := hO.cell 3 rfl 4 rfl
    have lt9_3 : B14_4 < V29.heap.size := hO.lt 3 rfl
    have y9_3 : ∀ o, V29.frozen? ⟨B14_4, o, none⟩ = false := hO.free 3 rfl
    have c9_4_0 : V29.cell? ⟨nd17, 0, none⟩ = some (.iface 81 (.pointer (some ⟨nd21, 0, none⟩))) := hO.cell 4 rfl 0 rfl
    have c9_4_1 : V29.cell? ⟨nd17, 1, none⟩ = some (.int .i32 ll) := hO.cell 4 rfl 1 rfl
    have c9_4_2 : V29.cell? ⟨nd17, 2, none⟩ = some (.iface 72 (.pointer (some ⟨nd18, 0, none⟩))) := hO.cell 4 rfl 2 rfl
    have c9_4_3 : V29.cell? ⟨nd17, 3, none⟩ = some (.int .i32 loc) := hO.cell 4 rfl 3 rfl
    have c9_4_4 : V29.cell? ⟨nd17, 4, none⟩ = some (.int .u8 37) := hO.cell 4 rfl 4 rfl
    have c9_4_5 : V29.cell? ⟨nd17, 5, none⟩ = some (.bool false) := hO.cell 4 rfl 5 rfl
    have lt9_4 : nd17 < V29.heap.size := hO.lt 4 rfl
    have y9_4 : ∀ o, V29.frozen? ⟨nd17, o, none⟩ = false := hO.free 4 rfl
    have c9_5_0 : V29.cell? ⟨nd18, 0, none⟩ = some (.iface 55 (.pointer (some ⟨nd19, 0, none⟩))) := hO.cell 5 rfl 0 rfl
    have c9_5_1 : V29.cell? ⟨nd18, 1, none⟩ = some (.int .i32 loc) := hO.cell 5 rfl 1 rfl
    have c9_5_2 : V29.cell? ⟨nd18, 2, none⟩ = some (.slice (some ⟨nd20, 0, none⟩) 2 2) := hO.cell 5 rfl 2 rfl
    have c9_5_3 : V29.cell? ⟨nd18, 3, none⟩ = some (.int .i32 0) := hO.cell 5 rfl 3 rfl
    have c9_5_4 : V29.cell? ⟨nd18, 4, none⟩ = some (.int .u8 0) := hO.cell 5 rfl 4 rfl
    have c9_5_5 : V29.cell? ⟨nd18, 5, none⟩ = some (.int .u8 0) := hO.cell 5 rfl 5 rfl
    have c9_5_6 : V29.cell? ⟨nd18, 6, none⟩ = some (.bool false) := hO.cell 5 rfl 6 rfl
    have c9_5_7 : V29.cell? ⟨nd18, 7, none⟩ = some (.bool false) := hO.cell 5 rfl 7 rfl
    have lt9_5 : nd18 < V29.heap.size := hO.lt 5 rfl
    have y9_5 : ∀ o, V29.frozen? ⟨nd18, o, none⟩ = false := hO.free 5 rfl
    have c9_6_0 : V29.cell? ⟨nd19, 0, none⟩ = some (.int .u32 0) := hO.cell 6 rfl 0 rfl
    have c9_6_1 : V29.cell? ⟨nd19, 1, none⟩ = some (.int .u32 (k : Int)) := hO.cell 6 rfl 1 rfl
    have c9_6_2 : V29.cell? ⟨nd19, 2, none⟩ = some (.bool false) := hO.cell 6 rfl 2 rfl
    have c9_6_3 : V29.cell? ⟨nd19, 3, none⟩ = some (.bool false) := hO.cell 6 rfl 3 rfl
    have c9_6_4 : V29.cell? ⟨nd19, 4, none⟩ = some (.bool false) := hO.cell 6 rfl 4 rfl
    have lt9_6 : nd19 < V29.heap.size := hO.lt 6 rfl
    have y9_6 : ∀ o, V29.frozen? ⟨nd19, o, none⟩ = false := hO.free 6 rfl
    have c9_7_0 : V29.cell? ⟨nd20, 0, none⟩ = some (.iface 81 (.pointer (some ⟨nd22, 0, none⟩))) := hO.cell 7 rfl 0 rfl
    have c9_7_1 : V29.cell? ⟨nd20, 1, none⟩ = some (.int .i32 ll) := hO.cell 7 rfl 1 rfl
    have c9_7_2 : V29.cell? ⟨nd20, 2, none⟩ = some (.iface 36 (.pointer (some ⟨B14_13, 0, none⟩))) := hO.cell 7 rfl 2 rfl
    have c9_7_3 : V29.cell? ⟨nd20, 3, none⟩ = some (.int .i32 loc) := hO.cell 7 rfl 3 rfl
    have lt9_7 : nd20 < V29.heap.size := hO.lt 7 rfl
    have y9_7 : ∀ o, V29.frozen? ⟨nd20, o, none⟩ = false := hO.free 7 rfl
    have c9_8_0 : V29.cell? ⟨nd21, 0, none⟩ = some (.iface 55 (.pointer (some ⟨nd23, 0, none⟩))) := hO.cell 8 rfl 0 rfl
    have c9_8_1 : V29.cell? ⟨nd21, 1, none⟩ = some (.int .i32 ll) := hO.cell 8 rfl 1 rfl
    have c9_8_2 : V29.cell? ⟨nd21, 2, none⟩ = some (.string nm) := hO.cell 8 rfl 2 rfl
    have c9_8_3 : V29.cell? ⟨nd21, 3, none⟩ = some (.int .i32 nl) := hO.cell 8 rfl 3 rfl
    have c9_8_4 : V29.cell? ⟨nd21, 4, none⟩ = some (.int .u8 0) := hO.cell 8 rfl 4 rfl
    have c9_8_5 : V29.cell? ⟨nd21, 5, none⟩ = some (.bool false) := hO.cell 8 rfl 5 rfl
    have c9_8_6 : V29.cell? ⟨nd21, 6, none⟩ = some (.bool false) := hO.cell 8 rfl 6 rfl
    have c9_8_7 : V29.cell? ⟨nd21, 7, none⟩ = some (.bool false) := hO.cell 8 rfl 7 rfl
    have lt9_8 : nd21 < V29.heap.size := hO.lt 8 rfl
    have y9_8 : ∀ o, V29.frozen? ⟨nd21, o, none⟩ = false := hO.free 8 rfl
    have c9_9_0 : V29.cell? ⟨nd22, 0, none⟩ = some (.iface 55 (.pointer (some ⟨nd24, 0, none⟩))) := hO.cell 9 rfl 0 rfl
    have c9_9_1 : V29.cell? ⟨nd22, 1, none⟩ = some (.int .i32 ll) := hO.cell 9 rfl 1 rfl
    have c9_9_2 : V29.cell? ⟨nd22, 2, none⟩ = some (.string nm) := hO.cell 9 rfl 2 rfl
    have c9_9_3 : V29.cell? ⟨nd22, 3, none⟩ = some (.int .i32 nl) := hO.cell 9 rfl 3 rfl
    have c9_9_4 : V29.cell? ⟨nd22, 4, none⟩ = some (.int .u8 0) := hO.cell 9 rfl 4 rfl
    have c9_9_5 : V29.cell? ⟨nd22, 5, none⟩ = some (.bool false) := hO.cell 9 rfl 5 rfl
    have c9_9_6 : V29.cell? ⟨nd22, 6, none⟩ = some (.bool false) := hO.cell 9 rfl 6 rfl
    have c9_9_7 : V29.cell? ⟨nd22, 7, none⟩ = some (.bool false) := hO.cell 9 rfl 7 rfl
    have lt9_9 : nd22 < V29.heap.size := hO.lt 9 rfl
    have y9_9 : ∀ o, V29.frozen? ⟨nd22, o, none⟩ = false := hO.free 9 rfl
    have c9_10_0 : V29.cell? ⟨nd23, 0, none⟩ = some (.int .u32 src) := hO.cell 10 rfl 0 rfl
    have c9_10_1 : V29.cell? ⟨nd23, 1, none⟩ = some (.int .u32 (m : Int)) := hO.cell 10 rfl 1 rfl
    have c9_10_2 : V29.cell? ⟨nd23, 2, none⟩ = some (.bool false) := hO.cell 10 rfl 2 rfl
    have c9_10_3 : V29.cell? ⟨nd23, 3, none⟩ = some (.bool false) := hO.cell 10 rfl 3 rfl
    have c9_10_4 : V29.cell? ⟨nd23, 4, none⟩ = some (.bool false) := hO.cell 10 rfl 4 rfl
    have lt9_10 : nd23 < V29.heap.size := hO.lt 10 rfl
    have y9_10 : ∀ o, V29.frozen? ⟨nd23, o, none⟩ = false := hO.free 10 rfl
    have c9_11_0 : V29.cell? ⟨nd24, 0, none⟩ = some (.int .u32 src) := hO.cell 11 rfl 0 rfl
    have c9_11_1 : V29.cell? ⟨nd24, 1, none⟩ = some (.int .u32 (m : Int)) := hO.cell 11 rfl 1 rfl
    have c9_11_2 : V29.cell? ⟨nd24, 2, none⟩ = some (.bool false) := hO.cell 11 rfl 2 rfl
    have c9_11_3 : V29.cell? ⟨nd24, 3, none⟩ = some (.bool false) := hO.cell 11 rfl 3 rfl
    have c9_11_4 : V29.cell? ⟨nd24, 4, none⟩ = some (.bool false) := hO.cell 11 rfl 4 rfl
    have lt9_11 : nd24 < V29.heap.size := hO.lt 11 rfl
    have y9_11 : ∀ o, V29.frozen? ⟨nd24, o, none⟩ = false := hO.free 11 rfl
    have c9_12_0 : V29.cell? ⟨B14_13, 0, none⟩ = some (.float .f64 v) := hO.cell 12 rfl 0 rfl
    have lt9_12 : B14_13 < V29.heap.size := hO.lt 12 rfl
    have y9_12 : ∀ o, V29.frozen? ⟨B14_13, o, none⟩ = false := hO.free 12 rfl
    have c9_13_0 : V29.cell? ⟨B14_2, 0, none⟩ = some (.int .u32 src) := hO.cell 13 rfl 0 rfl
    have c9_13_1 : V29.cell? ⟨B14_2, 1, none⟩ = some (.int .u32 (m : Int)) := hO.cell 13 rfl 1 rfl
    have lt9_13 : B14_2 < V29.heap.size := hO.lt 13 rfl
    have y9_13 : ∀ o, V29.frozen? ⟨B14_2, o, none⟩ = false := hO.free 13 rfl
    have c9_14_0 : V29.cell? ⟨B14, 0, none⟩ = some (.int .u32 src) := hO.cell 14 rfl 0 rfl
    have c9_14_1 : V29.cell? ⟨B14, 1, none⟩ = some (.int .u32 (m : Int)) := hO.cell 14 rfl 1 rfl
    have lt9_14 : B14 < V29.heap.size := hO.lt 14 rfl
    have y9_14 : ∀ o, V29.frozen? ⟨B14, o, none⟩ = false := hO.free 14 rfl
    have c9_15_0 : V29.cell? ⟨B2, 0, none⟩ = some (.int .u32 0) := hO.cell 15 rfl 0 rfl
    have c9_15_1 : V29.cell? ⟨B2, 1, none⟩ = some (.int .u32 (k : Int)) := hO.cell 15 rfl 1 rfl
    have lt9_15 : B2 < V29.heap.size := hO.lt 15 rfl
    have y9_15 : ∀ o, V29.frozen? ⟨B2, o, none⟩ = false := hO.free 15 rfl
    have HO := Lib.hid hO
    clear hO
    go_wp2_with (first | (go_at_call 19; go_in) | (go_at_call 11; go_in) | (go_at_call 31; go_in) | (go_at_call 32; go_in) | (go_at_call 12; go_in) | (go_at_call 15; go_in) | (go_at_call 29; go_in) | (go_at_call 20; go_in))
    have hO := HO.out
    clear HO pl9_2 pl9_8 pl9_9 pl9_10 pl9_11 ne9_2_8 ne9_2_9 ne9_8_2 ne9_8_9 ne9_9_2 ne9_9_8 ne9_10_11 ne9_11_10 c9_2_0 c9_2_1 c9_2_2 c9_2_3 c9_2_4 c9_2_5 c9_2_6 c9_2_7 lt9_2 y9_2 c9_3_0 c9_3_1 c9_3_2 c9_3_3 c9_3_4 lt9_3 y9_3 c9_4_0 c9_4_1 c9_4_2 c9_4_3 c9_4_4 c9_4_5 lt9_4 y9_4 c9_5_0 c9_5_1 c9_5_2 c9_5_3 c9_5_4 c9_5_5 c9_5_6 c9_5_7 lt9_5 y9_5 c9_6_0 c9_6_1 c9_6_2 c9_6_3 c9_6_4 lt9_6 y9_6 c9_7_0 c9_7_1 c9_7_2 c9_7_3 lt9_7 y9_7 c9_8_0 c9_8_1 c9_8_2 c9_8_3 c9_8_4 c9_8_5 c9_8_6 c9_8_7 lt9_8 y9_8 c9_9_0 c9_9_1 c9_9_2 c9_9_3 c9_9_4 c9_9_5 c9_9_6 c9_9_7 lt9_9 y9_9 c9_10_0 c9_10_1 c9_10_2 c9_10_3 c9_10_4 lt9_10 y9_10 c9_11_0 c9_11_1 c9_11_2 c9_11_3 c9_11_4 lt9_11 y9_11 c9_12_0 lt9_12 y9_12 c9_13_0 c9_13_1 lt9_13 y9_13 c9_14_0 c9_14_1 lt9_14 y9_14 c9_15_0 c9_15_1 lt9_15 y9_15
    refine wp_region_own (e := rD3gtE src m k tl ll nl loc nm v B2 nd5 nd6 nd8 nd9 B14_13 B14_9 B14_4 B14_2 B14 nd17 nd18 nd19 nd20 nd21 nd22 nd23 nd24) (anc := rD3gtAnc) (G := (fun L9 α u9 => OwnF w0 u9 (act rD3gtCnt 16 L9) (rD3gtR src m k tl ll nl loc nm v B2 nd5 nd6 nd8 nd9 B14_13 B14_9 B14_4 B14_2 B14 nd17 nd18 nd19 nd20 nd21 nd22 nd23 nd24 L9 α) X)) (by kernel_rfl) (by kernel_rfl) (by kernel_rfl) (by kernel_rfl) (rD3gt_he src m k tl ll nl loc nm v B2 nd5 nd6 nd8 nd9 B14_13 B14_9 B14_4 B14_2 B14 nd17 nd18 nd19 nd20 nd21 nd22 nd23 nd24) ?_ (RunsAll.all ?_) ?_
    · have hp : ∀ i, act rD3gtCnt 16 (fun _ => false) i → i ∈ [999, 1999, 2999, 3999, 4999, 5999, 6999, 7999, 8999, 9999, 10999, 11999, 12999, 13999, 14999, 15999] := by
        intro i hi
        have h9 : i % 1000 = 999 := by
          by_cases h : i % 1000 = 999
          · exact h
          · exact absurd (act_lt hi h) (by simp)
        unfold act at hi
        rw [if_pos h9] at hi
        simp only [List.mem_cons, List.not_mem_nil, or_false]
        omega
      refine hO.drew.family (fun i hi => ?_) (fun i j hi hj hij => ?_)
      · have := hp i hi
        simp only [List.mem_cons, List.not_mem_nil, or_false] at this
        rcases this with rfl | rfl | rfl | rfl | rfl | rfl | rfl | rfl | rfl | rfl | rfl | rfl | rfl | rfl | rfl | rfl <;> rfl
      · have h1 := hp i hi
        have h2 := hp j hj
        simp only [List.mem_cons, List.not_mem_nil, or_false] at h1 h2
        omega
    · refine ⟨?_, ?_, ?_, ?_, ?_, ?_, ?_, ?_, ?_, ?_, ?_, ?_, ?_, trivial⟩
      · intro L9 α a9 u9 K9 hL hcl hA hG hS h0 hK
        replace hL : L9 0 = false := hL
        have q33 : a9.tmps[33]? = some (.pointer (some ⟨nd18, 0, none⟩)) := (h0 33 (by kernel_rfl)).trans rfl
        have s33 := Rega.eval_of q33
        go_simp
        exact hK _ α _ (fun _ _ => rfl) rfl (step_same (rD3gt_st src m k tl ll nl loc nm v B2 nd5 nd6 nd8 nd9 B14_13 B14_9 B14_4 B14_2 B14 nd17 nd18 nd19 nd20 nd21 nd22 nd23 nd24) hL hcl rfl rfl hG)
      · intro L9 α a9 u9 K9 hL hcl hA hG hS h0 hK
        replace hL : L9 1 = false := hL
        have q163 : a9.tmps[163]? = some (.pointer (some ⟨nd18, 0, none⟩)) := hS 0 163 (by decide) rfl (by show 163 < 228; decide)
        have s163 := Rega.eval_of q163
        go_simp
        exact hK _ α _ (fun _ _ => rfl) rfl (step_same (rD3gt_st src m k tl ll nl loc nm v B2 nd5 nd6 nd8 nd9 B14_13 B14_9 B14_4 B14_2 B14 nd17 nd18 nd19 nd20 nd21 nd22 nd23 nd24) hL hcl rfl rfl hG)
      · intro L9 α a9 u9 K9 hL hcl hA hG hS h0 hK
        replace hL : L9 2 = false := hL
        have q164 : a9.tmps[164]? = some (.pointer (some ⟨nd18, 0, none⟩)) := hS 1 164 (by decide) rfl (by show 164 < 228; decide)
        have s164 := Rega.eval_of q164
        go_simp
        exact hK _ α _ (fun _ _ => rfl) rfl (step_same (rD3gt_st src m k tl ll nl loc nm v B2 nd5 nd6 nd8 nd9 B14_13 B14_9 B14_4 B14_2 B14 nd17 nd18 nd19 nd20 nd21 nd22 nd23 nd24) hL hcl rfl rfl hG)
      · intro L9 α a9 u9 K9 hL hcl hA hG hS h0 hK
        replace hL : L9 3 = false := hL
        have q165 : a9.tmps[165]? = some (.pointer (some ⟨nd18, 2, none⟩)) := hS 2 165 (by decide) rfl (by show 165 < 228; decide)
        have s165 := Rega.eval_of q165
        have e0 : rD3gtR src m k tl ll nl loc nm v B2 nd5 nd6 nd8 nd9 B14_13 B14_9 B14_4 B14_2 B14 nd17 nd18 nd19 nd20 nd21 nd22 nd23 nd24 L9 α 5999 = row (nd18) 77 #[.iface 55 (.pointer (some ⟨nd19, 0, none⟩)), .int .i32 loc, .slice (some ⟨nd20, 0, none⟩) 2 2, .int .i32 0, .int .u8 0, .int .u8 0, .bool false, .bool false] := rfl
        have hr := hG.rowAt 5999 (act_base 5999 rfl) e0
        have c0 : u9.cell? ⟨nd18, 2, none⟩ = some (.slice (some ⟨nd20, 0, none⟩) 2 2) := hr.cell rfl
        clear hr e0
        go_simp
        exact hK _ α _ (fun _ _ => rfl) rfl (step_same (rD3gt_st src m k tl ll nl loc nm v B2 nd5 nd6 nd8 nd9 B14_13 B14_9 B14_4 B14_2 B14 nd17 nd18 nd19 nd20 nd21 nd22 nd23 nd24) hL hcl rfl rfl hG)
      · intro L9 α a9 u9 K9 hL hcl hA hG hS h0 hK
        replace hL : L9 4 = false := hL
        have q166 : a9.tmps[166]? = some (.slice (some ⟨nd20, 0, none⟩) 2 2) := hS 3 166 (by decide) rfl (by show 166 < 228; decide)
        have s166 := Rega.eval_of q166
        go_simp
        exact hK _ α _ (fun _ _ => rfl) rfl (step_same (rD3gt_st src m k tl ll nl loc nm v B2 nd5 nd6 nd8 nd9 B14_13 B14_9 B14_4 B14_2 B14 nd17 nd18 nd19 nd20 nd21 nd22 nd23 nd24) hL hcl rfl rfl hG)
      · intro L9 α a9 u9 K9 hL hcl hA hG hS h0 hK
        replace hL : L9 5 = false := hL
        have q167 : a9.tmps[167]? = some (.pointer (some ⟨nd20, 0, none⟩)) := hS 4 167 (by decide) rfl (by show 167 < 228; decide)
        have s167 := Rega.eval_of q167
        have e0 : rD3gtR src m k tl ll nl loc nm v B2 nd5 nd6 nd8 nd9 B14_13 B14_9 B14_4 B14_2 B14 nd17 nd18 nd19 nd20 nd21 nd22 nd23 nd24 L9 α 7999 = row (nd20) 34 #[.iface 81 (.pointer (some ⟨nd22, 0, none⟩)), .int .i32 ll, .iface 36 (.pointer (some ⟨B14_13, 0, none⟩)), .int .i32 loc] := rfl
        have hr := hG.rowAt 7999 (act_base 7999 rfl) e0
        have c0 : u9.cell? ⟨nd20, 0, none⟩ = some (.iface 81 (.pointer (some ⟨nd22, 0, none⟩))) := hr.cell rfl
        have c1 : u9.cell? ⟨nd20, 1, none⟩ = some (.int .i32 ll) := hr.cell rfl
        clear hr e0
        go_simp
        exact hK _ α _ (fun _ _ => rfl) rfl (step_same (rD3gt_st src m k tl ll nl loc nm v B2 nd5 nd6 nd8 nd9 B14_13 B14_9 B14_4 B14_2 B14 nd17 nd18 nd19 nd20 nd21 nd22 nd23 nd24) hL hcl rfl rfl hG)
      · intro L9 α a9 u9 K9 hL hcl hA hG hS h0 hK
        replace hL : L9 6 = false := hL
        have q5 : a9.tmps[5]? = some (.int .i32 ll) := (h0 5 (by kernel_rfl)).trans rfl
        have s5 := Rega.eval_of q5
        go_simp
        exact hK _ α _ (fun _ _ => rfl) rfl (step_same (rD3gt_st src m k tl ll nl loc nm v B2 nd5 nd6 nd8 nd9 B14_13 B14_9 B14_4 B14_2 B14 nd17 nd18 nd19 nd20 nd21 nd22 nd23 nd24) hL hcl rfl rfl hG)
      · intro L9 α a9 u9 K9 hL hcl hA hG hS h0 hK
        replace hL : L9 7 = false := hL
        have q24 : a9.tmps[24]? = some (.pointer (some ⟨B14, 0, none⟩)) := (h0 24 (by kernel_rfl)).trans rfl
        have s24 := Rega.eval_of q24
        have e0 : rD3gtR src m k tl ll nl loc nm v B2 nd5 nd6 nd8 nd9 B14_13 B14_9 B14_4 B14_2 B14 nd17 nd18 nd19 nd20 nd21 nd22 nd23 nd24 L9 α 14999 = row (B14) 28 #[.int .u32 src, .int .u32 (m : Int)] := rfl
        have hr := hG.rowAt 14999 (act_base 14999 rfl) e0
        have c0 : u9.cell? ⟨B14, 0, none⟩ = some (.int .u32 src) := hr.cell rfl
        have c1 : u9.cell? ⟨B14, 1, none⟩ = some (.int .u32 (m : Int)) := hr.cell rfl
        clear hr e0
        go_simp
        exact hK _ α _ (fun _ _ => rfl) rfl (step_same (rD3gt_st src m k tl ll nl loc nm v B2 nd5 nd6 nd8 nd9 B14_13 B14_9 B14_4 B14_2 B14 nd17 nd18 nd19 nd20 nd21 nd22 nd23 nd24) hL hcl rfl rfl hG)
      · intro L9 α a9 u9 K9 hL hcl hA hG hS h0 hK
        replace hL : L9 8 = false := hL
        have q8 : a9.tmps[8]? = some (.string nm) := (h0 8 (by kernel_rfl)).trans rfl
        have s8 := Rega.eval_of q8
        go_simp
        exact hK _ α _ (fun _ _ => rfl) rfl (step_same (rD3gt_st src m k tl ll nl loc nm v B2 nd5 nd6 nd8 nd9 B14_13 B14_9 B14_4 B14_2 B14 nd17 nd18 nd19 nd20 nd21 nd22 nd23 nd24) hL hcl rfl rfl hG)
      · intro L9 α a9 u9 K9 hL hcl hA hG hS h0 hK
        replace hL : L9 9 = false := hL
        have q6 : a9.tmps[6]? = some (.int .i32 nl) := (h0 6 (by kernel_rfl)).trans rfl
        have s6 := Rega.eval_of q6
        go_simp
        exact hK _ α _ (fun _ _ => rfl) rfl (step_same (rD3gt_st src m k tl ll nl loc nm v B2 nd5 nd6 nd8 nd9 B14_13 B14_9 B14_4 B14_2 B14 nd17 nd18 nd19 nd20 nd21 nd22 nd23 nd24) hL hcl rfl rfl hG)
      · intro L9 α a9 u9 K9 hL hcl hA hG hS h0 hK
        replace hL : L9 10 = false := hL
        have q27 : a9.tmps[27]? = some (.pointer (some ⟨B14_9, 0, none⟩)) := (h0 27 (by kernel_rfl)).trans rfl
        have s27 := Rega.eval_of q27
        go_simp
        exact hK _ α _ (fun _ _ => rfl) rfl (step_same (rD3gt_st src m k tl ll nl loc nm v B2 nd5 nd6 nd8 nd9 B14_13 B14_9 B14_4 B14_2 B14 nd17 nd18 nd19 nd20 nd21 nd22 nd23 nd24) hL hcl rfl rfl hG)
      · intro L9 α a9 u9 K9 hL hcl hA hG hS h0 hK
        replace hL : L9 11 = false := hL
        have q168 : a9.tmps[168]? = some (.agg #[.iface 81 (.pointer (some ⟨nd22, 0, none⟩)), .int .i32 ll]) := hS 5 168 (by decide) rfl (by show 168 < 228; decide)
        have s168 := Rega.eval_of q168
        have q169 : a9.tmps[169]? = some (.int .i32 ll) := hS 6 169 (by decide) rfl (by show 169 < 228; decide)
        have s169 := Rega.eval_of q169
        have q170 : a9.tmps[170]? = some (.agg #[.int .u32 src, .int .u32 (m : Int)]) := hS 7 170 (by decide) rfl (by show 170 < 228; decide)
        have s170 := Rega.eval_of q170
        have q171 : a9.tmps[171]? = some (.string nm) := hS 8 171 (by decide) rfl (by show 171 < 228; decide)
        have s171 := Rega.eval_of q171
        have q172 : a9.tmps[172]? = some (.int .i32 nl) := hS 9 172 (by decide) rfl (by show 172 < 228; decide)
        have s172 := Rega.eval_of q172
        have q173 : a9.tmps[173]? = some (.pointer (some ⟨B14_9, 0, none⟩)) := hS 10 173 (by decide) rfl (by show 173 < 228; decide)
        have s173 := Rega.eval_of q173
        go_simp
        have e0 : rD3gtR src m k tl ll nl loc nm v B2 nd5 nd6 nd8 nd9 B14_13 B14_9 B14_4 B14_2 B14 nd17 nd18 nd19 nd20 nd21 nd22 nd23 nd24 L9 α 9999 = row (nd22) 85 #[.iface 55 (.pointer (some ⟨nd24, 0, none⟩)), .int .i32 ll, .string nm, .int .i32 nl, .int .u8 0, .bool false, .bool false, .bool false] := rfl
        have e1 : rD3gtR src m k tl ll nl loc nm v B2 nd5 nd6 nd8 nd9 B14_13 B14_9 B14_4 B14_2 B14 nd17 nd18 nd19 nd20 nd21 nd22 nd23 nd24 L9 α 2999 = row (B14_9) 85 #[.iface 55 (.pointer (some ⟨B14_4, 0, none⟩)), .int .i32 tl, .string nm, .int .i32 nl, .int .u8 0, .bool false, .bool false, .bool false] := rfl
        have e2 : rD3gtR src m k tl ll nl loc nm v B2 nd5 nd6 nd8 nd9 B14_13 B14_9 B14_4 B14_2 B14 nd17 nd18 nd19 nd20 nd21 nd22 nd23 nd24 L9 α 11999 = row (nd24) 214 #[.int .u32 src, .int .u32 (m : Int), .bool false, .bool false, .bool false] := rfl
        have e3 : rD3gtR src m k tl ll nl loc nm v B2 nd5 nd6 nd8 nd9 B14_13 B14_9 B14_4 B14_2 B14 nd17 nd18 nd19 nd20 nd21 nd22 nd23 nd24 L9 α 3999 = row (B14_4) 214 #[.int .u32 src, .int .u32 (m : Int), .bool false, .bool false, .bool false] := rfl
        have hM : ∀ i, i ∈ [9999, 2999, 11999, 3999] → act rD3gtCnt 16 L9 i := by
          intro i hi
          simp only [List.mem_cons, List.not_mem_nil, or_false] at hi
          rcases hi with rfl | rfl | rfl | rfl
          · exact act_base 9999 rfl
          · exact act_base 2999 rfl
          · exact act_base 11999 rfl
          · exact act_base 3999 rfl
        have hP : Own w0 u9 [row (nd22) 85 #[.iface 55 (.pointer (some ⟨nd24, 0, none⟩)), .int .i32 ll, .string nm, .int .i32 nl, .int .u8 0, .bool false, .bool false, .bool false], row (B14_9) 85 #[.iface 55 (.pointer (some ⟨B14_4, 0, none⟩)), .int .i32 tl, .string nm, .int .i32 nl, .int .u8 0, .bool false, .bool false, .bool false], row (nd24) 214 #[.int .u32 src, .int .u32 (m : Int), .bool false, .bool false, .bool false], row (B14_4) 214 #[.int .u32 src, .int .u32 (m : Int), .bool false, .bool false, .bool false]] _ := (hG.pick [9999, 2999, 11999, 3999] (by decide) hM).conv (by
          show [rD3gtR src m k tl ll nl loc nm v B2 nd5 nd6 nd8 nd9 B14_13 B14_9 B14_4 B14_2 B14 nd17 nd18 nd19 nd20 nd21 nd22 nd23 nd24 L9 α 9999, rD3gtR src m k tl ll nl loc nm v B2 nd5 nd6 nd8 nd9 B14_13 B14_9 B14_4 B14_2 B14 nd17 nd18 nd19 nd20 nd21 nd22 nd23 nd24 L9 α 2999, rD3gtR src m k tl ll nl loc nm v B2 nd5 nd6 nd8 nd9 B14_13 B14_9 B14_4 B14_2 B14 nd17 nd18 nd19 nd20 nd21 nd22 nd23 nd24 L9 α 11999, rD3gtR src m k tl ll nl loc nm v B2 nd5 nd6 nd8 nd9 B14_13 B14_9 B14_4 B14_2 B14 nd17 nd18 nd19 nd20 nd21 nd22 nd23 nd24 L9 α 3999] = _
          rw [e0, e1, e2, e3])
        clear e0 e1 e2 e3 hM
        refine Calls.mono (dotCopyO nd22 ll src (m : Int) nm nl B14_9 nd24 B14_4 tl _ _ _ hP ) ?_
        rintro e9 u1 ⟨rfl, hQ⟩
        obtain ⟨α', hα'⟩ : ∃ α' : Rega.Atoms, α' = α := ⟨_, rfl⟩
        have f0 : rD3gtR src m k tl ll nl loc nm v B2 nd5 nd6 nd8 nd9 B14_13 B14_9 B14_4 B14_2 B14 nd17 nd18 nd19 nd20 nd21 nd22 nd23 nd24 (Rega.ran L9 11) α' 9999 = row (nd22) 85 #[.iface 55 (.pointer (some ⟨nd24, 0, none⟩)), .int .i32 ll, .string nm, .int .i32 nl, .int .u8 0, .bool false, .bool false, .bool false] := rfl
        have f1 : rD3gtR src m k tl ll nl loc nm v B2 nd5 nd6 nd8 nd9 B14_13 B14_9 B14_4 B14_2 B14 nd17 nd18 nd19 nd20 nd21 nd22 nd23 nd24 (Rega.ran L9 11) α' 2999 = row (B14_9) 85 #[.iface 55 (.pointer (some ⟨B14_4, 0, none⟩)), .int .i32 tl, .string nm, .int .i32 nl, .int .u8 0, .bool false, .bool false, .bool false] := rfl
        have f2 : rD3gtR src m k tl ll nl loc nm v B2 nd5 nd6 nd8 nd9 B14_13 B14_9 B14_4 B14_2 B14 nd17 nd18 nd19 nd20 nd21 nd22 nd23 nd24 (Rega.ran L9 11) α' 11999 = row (nd24) 214 #[.int .u32 src, .int .u32 (m : Int), .bool false, .bool false, .bool false] := rfl
        have f3 : rD3gtR src m k tl ll nl loc nm v B2 nd5 nd6 nd8 nd9 B14_13 B14_9 B14_4 B14_2 B14 nd17 nd18 nd19 nd20 nd21 nd22 nd23 nd24 (Rega.ran L9 11) α' 3999 = row (B14_4) 214 #[.int .u32 src, .int .u32 (m : Int), .bool false, .bool false, .bool false] := rfl
        have hα : ∀ j, j % 1000 ≠ 11 → α' j = α j := fun j hj => by rw [hα']
        skip
        refine hK _ α' _ hα ?_ (step_call (rD3gt_st src m k tl ll nl loc nm v B2 nd5 nd6 nd8 nd9 B14_13 B14_9 B14_4 B14_2 B14 nd17 nd18 nd19 nd20 nd21 nd22 nd23 nd24) hL hcl hα [9999, 2999, 11999, 3999] [9999, 2999, 11999, 3999] (by decide) (by decide) (by decide) (M := _) ?_ hG hQ)
        · rfl
        · show [rD3gtR src m k tl ll nl loc nm v B2 nd5 nd6 nd8 nd9 B14_13 B14_9 B14_4 B14_2 B14 nd17 nd18 nd19 nd20 nd21 nd22 nd23 nd24 (Rega.ran L9 11) α' 9999, rD3gtR src m k tl ll nl loc nm v B2 nd5 nd6 nd8 nd9 B14_13 B14_9 B14_4 B14_2 B14 nd17 nd18 nd19 nd20 nd21 nd22 nd23 nd24 (Rega.ran L9 11) α' 2999, rD3gtR src m k tl ll nl loc nm v B2 nd5 nd6 nd8 nd9 B14_13 B14_9 B14_4 B14_2 B14 nd17 nd18 nd19 nd20 nd21 nd22 nd23 nd24 (Rega.ran L9 11) α' 11999, rD3gtR src m k tl ll nl loc nm v B2 nd5 nd6 nd8 nd9 B14_13 B14_9 B14_4 B14_2 B14 nd17 nd18 nd19 nd20 nd21 nd22 nd23 nd24 (Rega.ran L9 11) α' 3999] = _
          rw [f0, f1, f2, f3]
      · intro L9 α a9 u9 K9 hL hcl hA hG hS h0 hK
        replace hL : L9 12 = false := hL
        have q174 : a9.tmps[174]? = some (.pointer (some ⟨nd22, 0, none⟩)) := hS 11 174 (by decide) rfl (by show 174 < 228; decide)
        have s174 := Rega.eval_of q174
        go_simp
        exact hK _ α _ (fun _ _ => rfl) rfl (step_same (rD3gt_st src m k tl ll nl loc nm v B2 nd5 nd6 nd8 nd9 B14_13 B14_9 B14_4 B14_2 B14 nd17 nd18 nd19 nd20 nd21 nd22 nd23 nd24) hL hcl rfl rfl hG)
    · intro α u hG
      have e0 : rD3gtR src m k tl ll nl loc nm v B2 nd5 nd6 nd8 nd9 B14_13 B14_9 B14_4 B14_2 B14 nd17 nd18 nd19 nd20 nd21 nd22 nd23 nd24 (fun k => decide (k < 13)) α 999 = row (nd5) 207 nd8 := rfl
      have e1 : rD3gtR src m k tl ll nl loc nm v B2 nd5 nd6 nd8 nd9 B14_13 B14_9 B14_4 B14_2 B14 nd17 nd18 nd19 nd20 nd21 nd22 nd23 nd24 (fun k => decide (k < 13)) α 1999 = row (nd6) 223 (bumped (bumped (bumped nd9 m (0 : Nat)) m (1 : Nat)) k (0 : Nat)) := rfl
      have e2 : rD3gtR src m k tl ll nl loc nm v B2 nd5 nd6 nd8 nd9 B14_13 B14_9 B14_4 B14_2 B14 nd17 nd18 nd19 nd20 nd21 nd22 nd23 nd24 (fun k => decide (k < 13)) α 2999 = row (B14_9) 85 #[.iface 55 (.pointer (some ⟨B14_4, 0, none⟩)), .int .i32 tl, .string nm, .int .i32 nl, .int .u8 0, .bool false, .bool false, .bool false] := rfl
      have e3 : rD3gtR src m k tl ll nl loc nm v B2 nd5 nd6 nd8 nd9 B14_13 B14_9 B14_4 B14_2 B14 nd17 nd18 nd19 nd20 nd21 nd22 nd23 nd24 (fun k => decide (k < 13)) α 3999 = row (B14_4) 214 #[.int .u32 src, .int .u32 (m : Int), .bool false, .bool false, .bool false] := rfl
      have e4 : rD3gtR src m k tl ll nl loc nm v B2 nd5 nd6 nd8 nd9 B14_13 B14_9 B14_4 B14_2 B14 nd17 nd18 nd19 nd20 nd21 nd22 nd23 nd24 (fun k => decide (k < 13)) α 4999 = row (nd17) 47 #[.iface 81 (.pointer (some ⟨nd21, 0, none⟩)), .int .i32 ll, .iface 72 (.pointer (some ⟨nd18, 0, none⟩)), .int .i32 loc, .int .u8 37, .bool false] := rfl
      have e5 : rD3gtR src m k tl ll nl loc nm v B2 nd5 nd6 nd8 nd9 B14_13 B14_9 B14_4 B14_2 B14 nd17 nd18 nd19 nd20 nd21 nd22 nd23 nd24 (fun k => decide (k < 13)) α 5999 = row (nd18) 77 #[.iface 55 (.pointer (some ⟨nd19, 0, none⟩)), .int .i32 loc, .slice (some ⟨nd20, 0, none⟩) 2 2, .int .i32 0, .int .u8 0, .int .u8 0, .bool false, .bool false] := rfl
      have e6 : rD3gtR src m k tl ll nl loc nm v B2 nd5 nd6 nd8 nd9 B14_13 B14_9 B14_4 B14_2 B14 nd17 nd18 nd19 nd20 nd21 nd22 nd23 nd24 (fun k => decide (k < 13)) α 6999 = row (nd19) 214 #[.int .u32 0, .int .u32 (k : Int), .bool false, .bool false, .bool false] := rfl
      have e7 : rD3gtR src m k tl ll nl loc nm v B2 nd5 nd6 nd8 nd9 B14_13 B14_9 B14_4 B14_2 B14 nd17 nd18 nd19 nd20 nd21 nd22 nd23 nd24 (fun k => decide (k < 13)) α 7999 = row (nd20) 34 #[.iface 81 (.pointer (some ⟨nd22, 0, none⟩)), .int .i32 ll, .iface 36 (.pointer (some ⟨B14_13, 0, none⟩)), .int .i32 loc] := rfl
      have e8 : rD3gtR src m k tl ll nl loc nm v B2 nd5 nd6 nd8 nd9 B14_13 B14_9 B14_4 B14_2 B14 nd17 nd18 nd19 nd20 nd21 nd22 nd23 nd24 (fun k => decide (k < 13)) α 8999 = row (nd21) 85 #[.iface 55 (.pointer (some ⟨nd23, 0, none⟩)), .int .i32 ll, .string nm, .int .i32 nl, .int .u8 0, .bool false, .bool false, .bool false] := rfl
      have e9 : rD3gtR src m k tl ll nl loc nm v B2 nd5 nd6 nd8 nd9 B14_13 B14_9 B14_4 B14_2 B14 nd17 nd18 nd19 nd20 nd21 nd22 nd23 nd24 (fun k => decide (k < 13)) α 9999 = row (nd22) 85 #[.iface 55 (.pointer (some ⟨nd24, 0, none⟩)), .int .i32 ll, .string nm, .int .i32 nl, .int .u8 0, .bool false, .bool false, .bool false] := rfl
      have e10 : rD3gtR src m k tl ll nl loc nm v B2 nd5 nd6 nd8 nd9 B14_13 B14_9 B14_4 B14_2 B14 nd17 nd18 nd19 nd20 nd21 nd22 nd23 nd24 (fun k => decide (k < 13)) α 10999 = row (nd23) 214 #[.int .u32 src, .int .u32 (m : Int), .bool false, .bool false, .bool false] := rfl
      have e11 : rD3gtR src m k tl ll nl loc nm v B2 nd5 nd6 nd8 nd9 B14_13 B14_9 B14_4 B14_2 B14 nd17 nd18 nd19 nd20 nd21 nd22 nd23 nd24 (fun k => decide (k < 13)) α 11999 = row (nd24) 214 #[.int .u32 src, .int .u32 (m : Int), .bool false, .bool false, .bool false] := rfl
      have e12 : rD3gtR src m k tl ll nl loc nm v B2 nd5 nd6 nd8 nd9 B14_13 B14_9 B14_4 B14_2 B14 nd17 nd18 nd19 nd20 nd21 nd22 nd23 nd24 (fun k => decide (k < 13)) α 12999 = row (B14_13) 50 #[.float .f64 v] := rfl
      have e13 : rD3gtR src m k tl ll nl loc nm v B2 nd5 nd6 nd8 nd9 B14_13 B14_9 B14_4 B14_2 B14 nd17 nd18 nd19 nd20 nd21 nd22 nd23 nd24 (fun k => decide (k < 13)) α 13999 = row (B14_2) 28 #[.int .u32 src, .int .u32 (m : Int)] := rfl
      have e14 : rD3gtR src m k tl ll nl loc nm v B2 nd5 nd6 nd8 nd9 B14_13 B14_9 B14_4 B14_2 B14 nd17 nd18 nd19 nd20 nd21 nd22 nd23 nd24 (fun k => decide (k < 13)) α 14999 = row (B14) 28 #[.int .u32 src, .int .u32 (m : Int)] := rfl
      have e15 : rD3gtR src m k tl ll nl loc nm v B2 nd5 nd6 nd8 nd9 B14_13 B14_9 B14_4 B14_2 B14 nd17 nd18 nd19 nd20 nd21 nd22 nd23 nd24 (fun k => decide (k < 13)) α 15999 = row (B2) 28 #[.int .u32 0, .int .u32 (k : Int)] := rfl
      have hO : Own w0 u [row (nd5) 207 nd8, row (nd6) 223 (bumped (bumped (bumped nd9 m (0 : Nat)) m (1 : Nat)) k (0 : Nat)), row (B14_9) 85 #[.iface 55 (.pointer (some ⟨B14_4, 0, none⟩)), .int .i32 tl, .string nm, .int .i32 nl, .int .u8 0, .bool false, .bool false, .bool false], row (B14_4) 214 #[.int .u32 src, .int .u32 (m : Int), .bool false, .bool false, .bool false], row (nd17) 47 #[.iface 81 (.pointer (some ⟨nd21, 0, none⟩)), .int .i32 ll, .iface 72 (.pointer (some ⟨nd18, 0, none⟩)), .int .i32 loc, .int .u8 37, .bool false], row (nd18) 77 #[.iface 55 (.pointer (some ⟨nd19, 0, none⟩)), .int .i32 loc, .slice (some ⟨nd20, 0, none⟩) 2 2, .int .i32 0, .int .u8 0, .int .u8 0, .bool false, .bool false], row (nd19) 214 #[.int .u32 0, .int .u32 (k : Int), .bool false, .bool false, .bool false], row (nd20) 34 #[.iface 81 (.pointer (some ⟨nd22, 0, none⟩)), .int .i32 ll, .iface 36 (.pointer (some ⟨B14_13, 0, none⟩)), .int .i32 loc], row (nd21) 85 #[.iface 55 (.pointer (some ⟨nd23, 0, none⟩)), .int .i32 ll, .string nm, .int .i32 nl, .int .u8 0, .bool false, .bool false, .bool false], row (nd22) 85 #[.iface 55 (.pointer (some ⟨nd24, 0, none⟩)), .int .i32 ll, .string nm, .int .i32 nl, .int .u8 0, .bool false, .bool false, .bool false], row (nd23) 214 #[.int .u32 src, .int .u32 (m : Int), .bool false, .bool false, .bool false], row (nd24) 214 #[.int .u32 src, .int .u32 (m : Int), .bool false, .bool false, .bool false], row (B14_13) 50 #[.float .f64 v], row (B14_2) 28 #[.int .u32 src, .int .u32 (m : Int)], row (B14) 28 #[.int .u32 src, .int .u32 (m : Int)], row (B2) 28 #[.int .u32 0, .int .u32 (k : Int)]] X := (hG.list [999, 1999, 2999, 3999, 4999, 5999, 6999, 7999, 8999, 9999, 10999, 11999, 12999, 13999, 14999, 15999] (by decide) (act_all (by decide))).conv (by
        show [rD3gtR src m k tl ll nl loc nm v B2 nd5 nd6 nd8 nd9 B14_13 B14_9 B14_4 B14_2 B14 nd17 nd18 nd19 nd20 nd21 nd22 nd23 nd24 (fun k => decide (k < 13)) α 999, rD3gtR src m k tl ll nl loc nm v B2 nd5 nd6 nd8 nd9 B14_13 B14_9 B14_4 B14_2 B14 nd17 nd18 nd19 nd20 nd21 nd22 nd23 nd24 (fun k => decide (k < 13)) α 1999, rD3gtR src m k tl ll nl loc nm v B2 nd5 nd6 nd8 nd9 B14_13 B14_9 B14_4 B14_2 B14 nd17 nd18 nd19 nd20 nd21 nd22 nd23 nd24 (fun k => decide (k < 13)) α 2999, rD3gtR src m k tl ll nl loc nm v B2 nd5 nd6 nd8 nd9 B14_13 B14_9 B14_4 B14_2 B14 nd17 nd18 nd19 nd20 nd21 nd22 nd23 nd24 (fun k => decide (k < 13)) α 3999, rD3gtR src m k tl ll nl loc nm v B2 nd5 nd6 nd8 nd9 B14_13 B14_9 B14_4 B14_2 B14 nd17 nd18 nd19 nd20 nd21 nd22 nd23 nd24 (fun k => decide (k < 13)) α 4999, rD3gtR src m k tl ll nl loc nm v B2 nd5 nd6 nd8 nd9 B14_13 B14_9 B14_4 B14_2 B14 nd17 nd18 nd19 nd20 nd21 nd22 nd23 nd24 (fun k => decide (k < 13)) α 5999, rD3gtR src m k tl ll nl loc nm v B2 nd5 nd6 nd8 nd9 B14_13 B14_9 B14_4 B14_2 B14 nd17 nd18 nd19 nd20 nd21 nd22 nd23 nd24 (fun k => decide (k < 13)) α 6999, rD3gtR src m k tl ll nl loc nm v B2 nd5 nd6 nd8 nd9 B14_13 B14_9 B14_4 B14_2 B14 nd17 nd18 nd19 nd20 nd21 nd22 nd23 nd24 (fun k => decide (k < 13)) α 7999, rD3gtR src m k tl ll nl loc nm v B2 nd5 nd6 nd8 nd9 B14_13 B14_9 B14_4 B14_2 B14 nd17 nd18 nd19 nd20 nd21 nd22 nd23 nd24 (fun k => decide (k < 13)) α 8999, rD3gtR src m k tl ll nl loc nm v B2 nd5 nd6 nd8 nd9 B14_13 B14_9 B14_4 B14_2 B14 nd17 nd18 nd19 nd20 nd21 nd22 nd23 nd24 (fun k => decide (k < 13)) α 9999, rD3gtR src m k tl ll nl loc nm v B2 nd5 nd6 nd8 nd9 B14_13 B14_9 B14_4 B14_2 B14 nd17 nd18 nd19 nd20 nd21 nd22 nd23 nd24 (fun k => decide (k < 13)) α 10999, rD3gtR src m k tl ll nl loc nm v B2 nd5 nd6 nd8 nd9 B14_13 B14_9 B14_4 B14_2 B14 nd17 nd18 nd19 nd20 nd21 nd22 nd23 nd24 (fun k => decide (k < 13)) α 11999, rD3gtR src m k tl ll nl loc nm v B2 nd5 nd6 nd8 nd9 B14_13 B14_9 B14_4 B14_2 B14 nd17 nd18 nd19 nd20 nd21 nd22 nd23 nd24 (fun k => decide (k < 13)) α 12999, rD3gtR src m k tl ll nl loc nm v B2 nd5 nd6 nd8 nd9 B14_13 B14_9 B14_4 B14_2 B14 nd17 nd18 nd19 nd20 nd21 nd22 nd23 nd24 (fun k => decide (k < 13)) α 13999, rD3gtR src m k tl ll nl loc nm v B2 nd5 nd6 nd8 nd9 B14_13 B14_9 B14_4 B14_2 B14 nd17 nd18 nd19 nd20 nd21 nd22 nd23 nd24 (fun k => decide (k < 13)) α 14999, rD3gtR src m k tl ll nl loc nm v B2 nd5 nd6 nd8 nd9 B14_13 B14_9 B14_4 B14_2 B14 nd17 nd18 nd19 nd20 nd21 nd22 nd23 nd24 (fun k => decide (k < 13)) α 15999] = _
        rw [e0, e1, e2, e3, e4, e5, e6, e7, e8, e9, e10, e11, e12, e13, e14, e15])
      clear hG e0 e1 e2 e3 e4 e5 e6 e7 e8 e9 e10 e11 e12 e13 e14 e15
      generalize hfr : Rega.frameAt _ _ _ _ _ = fr
      have hdf : fr = ⟨#[.int .u64 x, .int .u32 src, .int .u32 (m : Int), .int .u32 (k : Int), .int .i32 tl, .int .i32 ll, .int .i32 nl, .int .i32 loc, .string nm, .float .f64 v, undef, undef, undef, undef, undef, undef, undef, undef, undef, undef, .bool false, .int .i64 ((m : Int) + 1), .pointer (some ⟨B2, 0, none⟩), .pointer (some ⟨nd5, 0, none⟩), .pointer (some ⟨B14, 0, none⟩), .pointer (some ⟨B14_10, 0, none⟩), .pointer (some ⟨B14_14, 0, none⟩), .pointer (some ⟨B14_9, 0, none⟩), .pointer (some ⟨B14_13, 0, none⟩), .pointer (some ⟨B14_17, 0, none⟩), .pointer (some ⟨B25, 0, none⟩), .pointer (some ⟨nd17, 0, none⟩), .pointer (some ⟨nd21, 0, none⟩), .pointer (some ⟨nd18, 0, none⟩), .pointer (some ⟨nd22, 0, none⟩), .int .u64 x, .int .u32 src, .int .u32 (m : Int), .int .u32 (k : Int), .int .i32 tl, .int .i32 ll, .int .i32 nl, .int .i32 loc, .string nm, .float .f64 v, .bool true, .bool false, .string nm, .int .i64 (nm.size : Int), .bool (decide (1048576 < (nm.size : Int))), .int .u32 (m : Int), .bool (decide (65536 < (m : Int))), .bool (decide (65536 < (m : Int))), .int .u32 (k : Int), .bool (decide (65536 < (k : Int))), .bool (decide (65536 < (m : Int)) || decide (65536 < (k : Int))), .int .u32 (m : Int), .int .i64 (m : Int), .int .i64 ((m : Int) + 1), .int .u32 (k : Int), .int .i64 (k : Int), .int .i64 ((k : Int) + 1), .int .i64 ((m : Int) + 1), .bool false, undef, undef, undef, .int .u32 (k : Int), .agg #[.int .u32 0, .int .u32 (k : Int)], .int .u64 x, .int .i64 ((m : Int) + 1), .agg #[.int .u32 0, .int .u32 (k : Int)], .pointer (some ⟨nd5, 0, none⟩), .int .u32 src, .int .u32 (m : Int), .agg #[.int .u32 src, .int .u32 (m : Int)], .int .i32 ll, .agg #[.int .i32 ll], .int .i32 tl, .agg #[.int .i32 tl], .agg #[.int .u32 src, .int .u32 (m : Int)], .agg #[.iface 55 (.pointer (some ⟨B14_4, 0, none⟩)), .int .i32 tl], .string nm, .int .i32 nl, .agg #[.int .i32 nl], .agg #[.iface 81 (.pointer (some ⟨B14_9, 0, none⟩)), .int .i32 ll], .int .i32 loc, .agg #[.int .i32 loc], .float .f64 v, .agg #[.iface 36 (.pointer (some ⟨B14_13, 0, none⟩)), .int .i32 loc], .agg #[.iface 81 (.pointer (some ⟨B14_9, 0, none⟩)), .int .i32 ll], .pointer (some ⟨B14_9, 0, none⟩), .agg #[.iface 36 (.pointer (some ⟨B14_13, 0, none⟩)), .int .i32 loc], .pointer (some ⟨B14_13, 0, none⟩), .agg #[.iface 81 (.pointer (some ⟨B14_9, 0, none⟩)), .int .i32 ll], .agg #[.iface 36 (.pointer (some ⟨B14_13, 0, none⟩)), .int .i32 loc], .agg #[.iface 81 (.pointer (some ⟨B14_9, 0, none⟩)), .int .i32 ll, .iface 36 (.pointer (some ⟨B14_13, 0, none⟩)), .int .i32 loc, .int .u8 0, .bool false], .pointer (some ⟨B14_17, 0, none⟩), .pointer (some ⟨nd5, 0, none⟩), .int .i32 loc, .agg #[.int .i32 loc], .pointer (some ⟨B14_17, 0, none⟩), .agg #[.iface 41 (.pointer (some ⟨nd17, 0, none⟩)), .int .i32 ll], .agg #[.iface 41 (.pointer (some ⟨nd17, 0, none⟩)), .int .i32 ll], .pointer (some ⟨nd17, 0, none⟩), .pointer (some ⟨nd17, 0, none⟩), .bool false, .bool false, .pointer (some ⟨nd17, 0, none⟩), .pointer (some ⟨nd17, 0, none⟩), .pointer (some ⟨nd17, 4, none⟩), .int .u8 37, .bool false, .bool false, .pointer (some ⟨nd17, 0, none⟩), .pointer (some ⟨nd17, 0, none⟩), .pointer (some ⟨nd17, 0, none⟩), .agg #[.iface 81 (.pointer (some ⟨nd21, 0, none⟩)), .int .i32 ll], .int .i32 ll, .agg #[.int .u32 src, .int .u32 (m : Int)], .string nm, .int .i32 nl, .pointer (some ⟨B14_9, 0, none⟩), .pointer (some ⟨nd21, 0, none⟩), .pointer (some ⟨nd17, 0, none⟩), .pointer (some ⟨nd17, 0, none⟩), .pointer (some ⟨nd17, 2, none⟩), .agg #[.iface 72 (.pointer (some ⟨nd18, 0, none⟩)), .int .i32 loc], .pointer (some ⟨nd18, 0, none⟩), .pointer (some ⟨nd21, 0, none⟩), .bool false, .bool false, .pointer (some ⟨nd18, 0, none⟩), .bool false, .bool false, .bool false, .pointer (some ⟨nd17, 0, none⟩), .pointer (some ⟨nd17, 0, none⟩), .pointer (some ⟨nd17, 2, none⟩), .pointer (some ⟨nd17, 3, none⟩), .pointer (some ⟨nd17, 3, none⟩), .int .i32 loc, .int .i32 loc, .bool false, .bool false, .bool false, .pointer (some ⟨nd18, 0, none⟩), .pointer (some ⟨nd18, 0, none⟩), .pointer (some ⟨nd18, 0, none⟩), .agg #[.iface 55 (.pointer (some ⟨nd19, 0, none⟩)), .int .i32 loc], .int .i32 loc, .agg #[.int .u32 0, .int .u32 (k : Int)], .bool true, .bool false, .bool false, .bool false, .pointer (some ⟨nd18, 0, none⟩), .pointer (some ⟨nd18, 0, none⟩), .pointer (some ⟨nd18, 2, none⟩), .slice (some ⟨nd20, 0, none⟩) 2 2, .int .i64 2, .bool false, .bool false, .pointer (some ⟨nd18, 0, none⟩), .pointer (some ⟨nd18, 0, none⟩), .pointer (some ⟨nd18, 2, none⟩), .slice (some ⟨nd20, 0, none⟩) 2 2, .pointer (some ⟨nd20, 0, none⟩), .agg #[.iface 81 (.pointer (some ⟨nd22, 0, none⟩)), .int .i32 ll], .int .i32 ll, .agg #[.int .u32 src, .int .u32 (m : Int)], .string nm, .int .i32 nl, .pointer (some ⟨B14_9, 0, none⟩), .pointer (some ⟨nd22, 0, none⟩), undef, undef, undef, undef, undef, undef, undef, undef, undef, undef, undef, undef, undef, undef, undef, undef, undef, undef, undef, undef, undef, undef, undef, undef, undef, undef, undef, undef, undef, undef, undef, undef, undef, undef, undef, undef, undef, undef, undef, undef, undef, undef, undef, undef, undef, undef, undef, undef, undef, undef, undef, undef, undef], []⟩ := by rw [← hfr]; kernel_rfl
      clear hfr
      subst hdf
      clear α
      have hN : Own w0 u [row (nd5) 207 nd8, row (nd6) 223 (bumped (bumped (bumped nd9 m (0 : Nat)) m (1 : Nat)) k (0 : Nat)), row (B14_9) 85 #[.iface 55 (.pointer (some ⟨B14_4, 0, none⟩)), .int .i32 tl, .string nm, .int .i32 nl, .int .u8 0, .bool false, .bool false, .bool false], row (B14_4) 214 #[.int .u32 src, .int .u32 (m : Int), .bool false, .bool false, .bool false], row (nd17) 47 #[.iface 81 (.pointer (some ⟨nd21, 0, none⟩)), .int .i32 ll, .iface 72 (.pointer (some ⟨nd18, 0, none⟩)), .int .i32 loc, .int .u8 37, .bool false], row (nd18) 77 #[.iface 55 (.pointer (some ⟨nd19, 0, none⟩)), .int .i32 loc, .slice (some ⟨nd20, 0, none⟩) 2 2, .int .i32 0, .int .u8 0, .int .u8 0, .bool false, .bool false], row (nd19) 214 #[.int .u32 0, .int .u32 (k : Int), .bool false, .bool false, .bool false], row (nd20) 34 #[.iface 81 (.pointer (some ⟨nd22, 0, none⟩)), .int .i32 ll, .iface 36 (.pointer (some ⟨B14_13, 0, none⟩)), .int .i32 loc], row (nd21) 85 #[.iface 55 (.pointer (some ⟨nd23, 0, none⟩)), .int .i32 ll, .string nm, .int .i32 nl, .int .u8 0, .bool false, .bool false, .bool false], row (nd22) 85 #[.iface 55 (.pointer (some ⟨nd24, 0, none⟩)), .int .i32 ll, .string nm, .int .i32 nl, .int .u8 0, .bool false, .bool false, .bool false], row (nd23) 214 #[.int .u32 src, .int .u32 (m : Int), .bool false, .bool false, .bool false], row (nd24) 214 #[.int .u32 src, .int .u32 (m : Int), .bool false, .bool false, .bool false], row (B14_13) 50 #[.float .f64 v], row (B14_2) 28 #[.int .u32 src, .int .u32 (m : Int)], row (B14) 28 #[.int .u32 src, .int .u32 (m : Int)], row (B2) 28 #[.int .u32 0, .int .u32 (k : Int)]] X := hO.sub [0, 1, 2, 3, 4, 5, 6, 7, 8, 9, 10, 11, 12, 13, 14, 15] (by decide)
      clear hO
      have hO := hN
      clear hN
      have pl9_2 : Base.plainAt u (B14_9) = true := hO.plain 2 rfl
      have pl9_8 : Base.plainAt u (nd21) = true := hO.plain 8 rfl
      have pl9_9 : Base.plainAt u (nd22) = true := hO.plain 9 rfl
      have pl9_10 : Base.plainAt u (nd23) = true := hO.plain 10 rfl
      have pl9_11 : Base.plainAt u (nd24) = true := hO.plain 11 rfl
      have ne9_2_8 : ¬ B14_9 = nd21 := hO.ne 2 8 rfl rfl (by decide)
      have ne9_2_9 : ¬ B14_9 = nd22 := hO.ne 2 9 rfl rfl (by decide)
      have ne9_8_2 : ¬ nd21 = B14_9 := hO.ne 8 2 rfl rfl (by decide)
      have ne9_8_9 : ¬ nd21 = nd22 := hO.ne 8 9 rfl rfl (by decide)
      have ne9_9_2 : ¬ nd22 = B14_9 := hO.ne 9 2 rfl rfl (by decide)
      have ne9_9_8 : ¬ nd22 = nd21 := hO.ne 9 8 rfl rfl (by decide)
      have ne9_10_11 : ¬ nd23 = nd24 := hO.ne 10 11 rfl rfl (by decide)
      have ne9_11_10 : ¬ nd24 = nd23 := hO.ne 11 10 rfl rfl (by decide)
      have c9_2_0 : u.cell? ⟨B14_9, 0, none⟩ = some (.iface 55 (.pointer (some ⟨B14_4, 0, none⟩))) := hO.cell 2 rfl 0 rfl
      have c9_2_1 : u.cell? ⟨B14_9, 1, none⟩ = some (.int .i32 tl) := hO.cell 2 rfl 1 rfl
      have c9_2_2 : u.cell? ⟨B14_9, 2, none⟩ = some (.string nm) := hO.cell 2 rfl 2 rfl
      have c9_2_3 : u.cell? ⟨B14_9, 3, none⟩ = some (.int .i32 nl) := hO.cell 2 rfl 3 rfl
      have c9_2_4 : u.cell? ⟨B14_9, 4, none⟩ = some (.int .u8 0) := hO.cell 2 rfl 4 rfl
      have c9_2_5 : u.cell? ⟨B14_9, 5, none⟩ = some (.bool false) := hO.cell 2 rfl 5 rfl
      have c9_2_6 : u.cell? ⟨B14_9, 6, none⟩ = some (.bool false) := hO.cell 2 rfl 6 rfl
      have c9_2_7 : u.cell? ⟨B14_9, 7, none⟩ = some (.bool false) := hO.cell 2 rfl 7 rfl
      have lt9_2 : B14_9 < u.heap.size := hO.lt 2 rfl
      have y9_2 : ∀ o, u.frozen? ⟨B14_9, o, none⟩ = false := hO.free 2 rfl
      have c9_3_0 : u.cell? ⟨B14_4, 0, none⟩ = some (.int .u32 src) := hO.cell 3 rfl 0 rfl
      have c9_3_1 : u.cell? ⟨B14_4, 1, none⟩ = some (.int .u32 (m : Int)) := hO.cell 3 rfl 1 rfl
      have c9_3_2 : u.cell? ⟨B14_4, 2, none⟩ = some (.bool false) := hO.cell 3 rfl 2 rfl
      have c9_3_3 : u.cell? ⟨B14_4, 3, none⟩ = some (.bool false) := hO.cell 3 rfl 3 rfl
      have c9_3_4 : u.cell? ⟨B14_4, 4, none⟩ = some (.bool false) := hO.cell 3 rfl 4 rfl
      have lt9_3 : B14_4 < u.heap.size := hO.lt 3 rfl
      have y9_3 : ∀ o, u.frozen? ⟨B14_4, o, none⟩ = false := hO.free 3 rfl
      have c9_4_0 : u.cell? ⟨nd17, 0, none⟩ = some (.iface 81 (.pointer (some ⟨nd21, 0, none⟩))) := hO.cell 4 rfl 0 rfl
      have c9_4_1 : u.cell? ⟨nd17, 1, none⟩ = some (.int .i32 ll) := hO.cell 4 rfl 1 rfl
      have c9_4_2 : u.cell? ⟨nd17, 2, none⟩ = some (.iface 72 (.pointer (some ⟨nd18, 0, none⟩))) := hO.cell 4 rfl 2 rfl
      have c9_4_3 : u.cell? ⟨nd17, 3, none⟩ = some (.int .i32 loc) := hO.cell 4 rfl 3 rfl
      have c9_4_4 : u.cell? ⟨nd17, 4, none⟩ = some (.int .u8 37) := hO.cell 4 rfl 4 rfl
      have c9_4_5 : u.cell? ⟨nd17, 5, none⟩ = some (.bool false) := hO.cell 4 rfl 5 rfl
      have lt9_4 : nd17 < u.heap.size := hO.lt 4 rfl
      have y9_4 : ∀ o, u.frozen? ⟨nd17, o, none⟩ = false := hO.free 4 rfl
      have c9_5_0 : u.cell? ⟨nd18, 0, none⟩ = some (.iface 55 (.pointer (some ⟨nd19, 0, none⟩))) := hO.cell 5 rfl 0 rfl
      have c9_5_1 : u.cell? ⟨nd18, 1, none⟩ = some (.int .i32 loc) := hO.cell 5 rfl 1 rfl
      have c9_5_2 : u.cell? ⟨nd18, 2, none⟩ = some (.slice (some ⟨nd20, 0, none⟩) 2 2) := hO.cell 5 rfl 2 rfl
      have c9_5_3 : u.cell? ⟨nd18, 3, none⟩ = some (.int .i32 0) := hO.cell 5 rfl 3 rfl
      have c9_5_4 : u.cell? ⟨nd18, 4, none⟩ = some (.int .u8 0) := hO.cell 5 rfl 4 rfl
      have c9_5_5 : u.cell? ⟨nd18, 5, none⟩ = some (.int .u8 0) := hO.cell 5 rfl 5 rfl
      have c9_5_6 : u.cell? ⟨nd18, 6, none⟩ = some (.bool false) := hO.cell 5 rfl 6 rfl
      have c9_5_7 : u.cell? ⟨nd18, 7, none⟩ = some (.bool false) := hO.cell 5 rfl 7 rfl
      have lt9_5 : nd18 < u.heap.size := hO.lt 5 rfl
      have y9_5 : ∀ o, u.frozen? ⟨nd18, o, none⟩ = false := hO.free 5 rfl
      have c9_6_0 : u.cell? ⟨nd19, 0, none⟩ = some (.int .u32 0) := hO.cell 6 rfl 0 rfl
      have c9_6_1 : u.cell? ⟨nd19, 1, none⟩ = some (.int .u32 (k : Int)) := hO.cell 6 rfl 1 rfl
      have c9_6_2 : u.cell? ⟨nd19, 2, none⟩ = some (.bool false) := hO.cell 6 rfl 2 rfl
      have c9_6_3 : u.cell? ⟨nd19, 3, none⟩ = some (.bool false) := hO.cell 6 rfl 3 rfl
      have c9_6_4 : u.cell? ⟨nd19, 4, none⟩ = some (.bool false) := hO.cell 6 rfl 4 rfl
      have lt9_6 : nd19 < u.heap.size := hO.lt 6 rfl
      have y9_6 : ∀ o, u.frozen? ⟨nd19, o, none⟩ = false := hO.free 6 rfl
      have c9_7_0 : u.cell? ⟨nd20, 0, none⟩ = some (.iface 81 (.pointer (some ⟨nd22, 0, none⟩))) := hO.cell 7 rfl 0 rfl
      have c9_7_1 : u.cell? ⟨nd20, 1, none⟩ = some (.int .i32 ll) := hO.cell 7 rfl 1 rfl
      have c9_7_2 : u.cell? ⟨nd20, 2, none⟩ = some (.iface 36 (.pointer (some ⟨B14_13, 0, none⟩))) := hO.cell 7 rfl 2 rfl
      have c9_7_3 : u.cell? ⟨nd20, 3, none⟩ = some (.int .i32 loc) := hO.cell 7 rfl 3 rfl
      have lt9_7 : nd20 < u.heap.size := hO.lt 7 rfl
      have y9_7 : ∀ o, u.frozen? ⟨nd20, o, none⟩ = false := hO.free 7 rfl
      have c9_8_0 : u.cell? ⟨nd21, 0, none⟩ = some (.iface 55 (.pointer (some ⟨nd23, 0, none⟩))) := hO.cell 8 rfl 0 rfl
      have c9_8_1 : u.cell? ⟨nd21, 1, none⟩ = some (.int .i32 ll) := hO.cell 8 rfl 1 rfl
      have c9_8_2 : u.cell? ⟨nd21, 2, none⟩ = some (.string nm) := hO.cell 8 rfl 2 rfl
      have c9_8_3 : u.cell? ⟨nd21, 3, none⟩ = some (.int .i32 nl) := hO.cell 8 rfl 3 rfl
      have c9_8_4 : u.cell? ⟨nd21, 4, none⟩ = some (.int .u8 0) := hO.cell 8 rfl 4 rfl
      have c9_8_5 : u.cell? ⟨nd21, 5, none⟩ = some (.bool false) := hO.cell 8 rfl 5 rfl
      have c9_8_6 : u.cell? ⟨nd21, 6, none⟩ = some (.bool false) := hO.cell 8 rfl 6 rfl
      have c9_8_7 : u.cell? ⟨nd21, 7, none⟩ = some (.bool false) := hO.cell 8 rfl 7 rfl
      have lt9_8 : nd21 < u.heap.size := hO.lt 8 rfl
      have y9_8 : ∀ o, u.frozen? ⟨nd21, o, none⟩ = false := hO.free 8 rfl
      have c9_9_0 : u.cell? ⟨nd22, 0, none⟩ = some (.iface 55 (.pointer (some ⟨nd24, 0, none⟩))) := hO.cell 9 rfl 0 rfl
      have c9_9_1 : u.cell? ⟨nd22, 1, none⟩ = some (.int .i32 ll) := hO.cell 9 rfl 1 rfl
      have c9_9_2 : u.cell? ⟨nd22, 2, none⟩ = some (.string nm) := hO.cell 9 rfl 2 rfl
      have c9_9_3 : u.cell? ⟨nd22, 3, none⟩ = some (.int .i32 nl) := hO.cell 9 rfl 3 rfl
      have c9_9_4 : u.cell? ⟨nd22, 4, none⟩ = some (.int .u8 0) := hO.cell 9 rfl 4 rfl
      have c9_9_5 : u.cell? ⟨nd22, 5, none⟩ = some (.bool false) := hO.cell 9 rfl 5 rfl
      have c9_9_6 : u.cell? ⟨nd22, 6, none⟩ = some (.bool false) := hO.cell 9 rfl 6 rfl
      have c9_9_7 : u.cell? ⟨nd22, 7, none⟩ = some (.bool false) := hO.cell 9 rfl 7 rfl
      have lt9_9 : nd22 < u.heap.size := hO.lt 9 rfl
      have y9_9 : ∀ o, u.frozen? ⟨nd22, o, none⟩ = false := hO.free 9 rfl
      have c9_10_0 : u.cell? ⟨nd23, 0, none⟩ = some (.int .u32 src) := hO.cell 10 rfl 0 rfl
      have c9_10_1 : u.cell? ⟨nd23, 1, none⟩ = some (.int .u32 (m : Int)) := hO.cell 10 rfl 1 rfl
      have c9_10_2 : u.cell? ⟨nd23, 2, none⟩ = some (.bool false) := hO.cell 10 rfl 2 rfl
      have c9_10_3 : u.cell? ⟨nd23, 3, none⟩ = some (.bool false) := hO.cell 10 rfl 3 rfl
      have c9_10_4 : u.cell? ⟨nd23, 4, none⟩ = some (.bool false) := hO.cell 10 rfl 4 rfl
      have lt9_10 : nd23 < u.heap.size := hO.lt 10 rfl
      have y9_10 : ∀ o, u.frozen? ⟨nd23, o, none⟩ = false := hO.free 10 rfl
      have c9_11_0 : u.cell? ⟨nd24, 0, none⟩ = some (.int .u32 src) := hO.cell 11 rfl 0 rfl
      have c9_11_1 : u.cell? ⟨nd24, 1, none⟩ = some (.int .u32 (m : Int)) := hO.cell 11 rfl 1 rfl
      have c9_11_2 : u.cell? ⟨nd24, 2, none⟩ = some (.bool false) := hO.cell 11 rfl 2 rfl
      have c9_11_3 : u.cell? ⟨nd24, 3, none⟩ = some (.bool false) := hO.cell 11 rfl 3 rfl
      have c9_11_4 : u.cell? ⟨nd24, 4, none⟩ = some (.bool false) := hO.cell 11 rfl 4 rfl
      have lt9_11 : nd24 < u.heap.size := hO.lt 11 rfl
      have y9_11 : ∀ o, u.frozen? ⟨nd24, o, none⟩ = false := hO.free 11 rfl
      have c9_12_0 : u.cell? ⟨B14_13, 0, none⟩ = some (.float .f64 v) := hO.cell 12 rfl 0 rfl
      have lt9_12 : B14_13 < u.heap.size := hO.lt 12 rfl
      have y9_12 : ∀ o, u.frozen? ⟨B14_13, o, none⟩ = false := hO.free 12 rfl
      have c9_13_0 : u.cell? ⟨B14_2, 0, none⟩ = some (.int .u32 src) := hO.cell 13 rfl 0 rfl
      have c9_13_1 : u.cell? ⟨B14_2, 1, none⟩ = some (.int .u32 (m : Int)) := hO.cell 13 rfl 1 rfl
      have lt9_13 : B14_2 < u.heap.size := hO.lt 13 rfl
      have y9_13 : ∀ o, u.frozen? ⟨B14_2, o, none⟩ = false := hO.free 13 rfl
      have c9_14_0 : u.cell? ⟨B14, 0, none⟩ = some (.int .u32 src) := hO.cell 14 rfl 0 rfl
      have c9_14_1 : u.cell? ⟨B14, 1, none⟩ = some (.int .u32 (m : Int)) := hO.cell 14 rfl 1 rfl
      have lt9_14 : B14 < u.heap.size := hO.lt 14 rfl
      have y9_14 : ∀ o, u.frozen? ⟨B14, o, none⟩ = false := hO.free 14 rfl
      have c9_15_0 : u.cell? ⟨B2, 0, none⟩ = some (.int .u32 0) := hO.cell 15 rfl 0 rfl
      have c9_15_1 : u.cell? ⟨B2, 1, none⟩ = some (.int .u32 (k : Int)) := hO.cell 15 rfl 1 rfl
      have lt9_15 : B2 < u.heap.size := hO.lt 15 rfl
      have y9_15 : ∀ o, u.frozen? ⟨B2, o, none⟩ = false := hO.free 15 rfl
      have HO := Lib.hid hO
      clear hO
      go_wp2_with (first | (go_at_call 19; go_in) | (go_at_call 11; go_in) | (go_at_call 31; go_in) | (go_at_call 32; go_in) | (go_at_call 12; go_in) | (go_at_call 15; go_in) | (go_at_call 29; go_in) | (go_at_call 20; go_in))
      have hO := HO.out
      clear HO pl9_2 pl9_8 pl9_9 pl9_10 pl9_11 ne9_2_8 ne9_2_9 ne9_8_2 ne9_8_9 ne9_9_2 ne9_9_8 ne9_10_11 ne9_11_10 c9_2_0 c9_2_1 c9_2_2 c9_2_3 c9_2_4 c9_2_5 c9_2_6 c9_2_7 lt9_2 y9_2 c9_3_0 c9_3_1 c9_3_2 c9_3_3 c9_3_4 lt9_3 y9_3 c9_4_0 c9_4_1 c9_4_2 c9_4_3 c9_4_4 c9_4_5 lt9_4 y9_4 c9_5_0 c9_5_1 c9_5_2 c9_5_3 c9_5_4 c9_5_5 c9_5_6 c9_5_7 lt9_5 y9_5 c9_6_0 c9_6_1 c9_6_2 c9_6_3 c9_6_4 lt9_6 y9_6 c9_7_0 c9_7_1 c9_7_2 c9_7_3 lt9_7 y9_7 c9_8_0 c9_8_1 c9_8_2 c9_8_3 c9_8_4 c9_8_5 c9_8_6 c9_8_7 lt9_8 y9_8 c9_9_0 c9_9_1 c9_9_2 c9_9_3 c9_9_4 c9_9_5 c9_9_6 c9_9_7 lt9_9 y9_9 c9_10_0 c9_10_1 c9_10_2 c9_10_3 c9_10_4 lt9_10 y9_10 c9_11_0 c9_11_1 c9_11_2 c9_11_3 c9_11_4 lt9_11 y9_11 c9_12_0 lt9_12 y9_12 c9_13_0 c9_13_1 lt9_13 y9_13 c9_14_0 c9_14_1 lt9_14 y9_14 c9_15_0 c9_15_1 lt9_15 y9_15
      have kq9_2_0 := cell_regrown (show u.cell? ⟨B14_9, 0, none⟩ = some (.iface 55 (.pointer (some ⟨B14_4, 0, none⟩))) from hO.cell 2 rfl 0 (rfl))
      have kq9_2_1 := cell_regrown (show u.cell? ⟨B14_9, 1, none⟩ = some (.int .i32 tl) from hO.cell 2 rfl 1 (rfl))
      have kq9_2_2 := cell_regrown (show u.cell? ⟨B14_9, 2, none⟩ = some (.string nm) from hO.cell 2 rfl 2 (rfl))
      have kq9_2_3 := cell_regrown (show u.cell? ⟨B14_9, 3, none⟩ = some (.int .i32 nl) from hO.cell 2 rfl 3 (rfl))
      have kq9_2_4 := cell_regrown (show u.cell? ⟨B14_9, 4, none⟩ = some (.int .u8 0) from hO.cell 2 rfl 4 (rfl))
      have kq9_2_5 := cell_regrown (show u.cell? ⟨B14_9, 5, none⟩ = some (.bool false) from hO.cell 2 rfl 5 (rfl))
      have kq9_2_6 := cell_regrown (show u.cell? ⟨B14_9, 6, none⟩ = some (.bool false) from hO.cell 2 rfl 6 (rfl))
      have kq9_2_7 := cell_regrown (show u.cell? ⟨B14_9, 7, none⟩ = some (.bool false) from hO.cell 2 rfl 7 (rfl))
      have kq9_3_0 := cell_regrown (show u.cell? ⟨B14_4, 0, none⟩ = some (.int .u32 src) from hO.cell 3 rfl 0 (rfl))
      have kq9_3_1 := cell_regrown (show u.cell? ⟨B14_4, 1, none⟩ = some (.int .u32 (m : Int)) from hO.cell 3 rfl 1 (rfl))
      have kq9_3_2 := cell_regrown (show u.cell? ⟨B14_4, 2, none⟩ = some (.bool false) from hO.cell 3 rfl 2 (rfl))
      have kq9_3_3 := cell_regrown (show u.cell? ⟨B14_4, 3, none⟩ = some (.bool false) from hO.cell 3 rfl 3 (rfl))
      have kq9_3_4 := cell_regrown (show u.cell? ⟨B14_4, 4, none⟩ = some (.bool false) from hO.cell 3 rfl 4 (rfl))
      have kq9_4_0 := cell_regrown (show u.cell? ⟨nd17, 0, none⟩ = some (.iface 81 (.pointer (some ⟨nd21, 0, none⟩))) from hO.cell 4 rfl 0 (rfl))
      have kq9_4_1 := cell_regrown (show u.cell? ⟨nd17, 1, none⟩ = some (.int .i32 ll) from hO.cell 4 rfl 1 (rfl))
      have kq9_4_2 := cell_regrown (show u.cell? ⟨nd17, 2, none⟩ = some (.iface 72 (.pointer (some ⟨nd18, 0, none⟩))) from hO.cell 4 rfl 2 (rfl))
      have kq9_4_3 := cell_regrown (show u.cell? ⟨nd17, 3, none⟩ = some (.int .i32 loc) from hO.cell 4 rfl 3 (rfl))
      have kq9_4_4 := cell_regrown (show u.cell? ⟨nd17, 4, none⟩ = some (.int .u8 37) from hO.cell 4 rfl 4 (rfl))
      have kq9_4_5 := cell_regrown (show u.cell? ⟨nd17, 5, none⟩ = some (.bool false) from hO.cell 4 rfl 5 (rfl))
      have kq9_5_0 := cell_regrown (show u.cell? ⟨nd18, 0, none⟩ = some (.iface 55 (.pointer (some ⟨nd19, 0, none⟩))) from hO.cell 5 rfl 0 (rfl))
      have kq9_5_1 := cell_regrown (show u.cell? ⟨nd18, 1, none⟩ = some (.int .i32 loc) from hO.cell 5 rfl 1 (rfl))
      have kq9_5_2 := cell_regrown (show u.cell? ⟨nd18, 2, none⟩ = some (.slice (some ⟨nd20, 0, none⟩) 2 2) from hO.cell 5 rfl 2 (rfl))
      have kq9_5_3 := cell_regrown (show u.cell? ⟨nd18, 3, none⟩ = some (.int .i32 0) from hO.cell 5 rfl 3 (rfl))
      have kq9_5_4 := cell_regrown (show u.cell? ⟨nd18, 4, none⟩ = some (.int .u8 0) from hO.cell 5 rfl 4 (rfl))
      have kq9_5_5 := cell_regrown (show u.cell? ⟨nd18, 5, none⟩ = some (.int .u8 0) from hO.cell 5 rfl 5 (rfl))
      have kq9_5_6 := cell_regrown (show u.cell? ⟨nd18, 6, none⟩ = some (.bool false) from hO.cell 5 rfl 6 (rfl))
      have kq9_5_7 := cell_regrown (show u.cell? ⟨nd18, 7, none⟩ = some (.bool false) from hO.cell 5 rfl 7 (rfl))
      have kq9_6_0 := cell_regrown (show u.cell? ⟨nd19, 0, none⟩ = some (.int .u32 0) from hO.cell 6 rfl 0 (rfl))
      have kq9_6_1 := cell_regrown (show u.cell? ⟨nd19, 1, none⟩ = some (.int .u32 (k : Int)) from hO.cell 6 rfl 1 (rfl))
      have kq9_6_2 := cell_regrown (show u.cell? ⟨nd19, 2, none⟩ = some (.bool false) from hO.cell 6 rfl 2 (rfl))
      have kq9_6_3 := cell_regrown (show u.cell? ⟨nd19, 3, none⟩ = some (.bool false) from hO.cell 6 rfl 3 (rfl))
      have kq9_6_4 := cell_regrown (show u.cell? ⟨nd19, 4, none⟩ = some (.bool false) from hO.cell 6 rfl 4 (rfl))
      have kq9_7_0 := cell_regrown (show u.cell? ⟨nd20, 0, none⟩ = some (.iface 81 (.pointer (some ⟨nd22, 0, none⟩))) from hO.cell 7 rfl 0 (rfl))
      have kq9_7_1 := cell_regrown (show u.cell? ⟨nd20, 1, none⟩ = some (.int .i32 ll) from hO.cell 7 rfl 1 (rfl))
      have kq9_7_2 := cell_regrown (show u.cell? ⟨nd20, 2, none⟩ = some (.iface 36 (.pointer (some ⟨B14_13, 0, none⟩))) from hO.cell 7 rfl 2 (rfl))
      have kq9_7_3 := cell_regrown (show u.cell? ⟨nd20, 3, none⟩ = some (.int .i32 loc) from hO.cell 7 rfl 3 (rfl))
      have kq9_8_0 := cell_regrown (show u.cell? ⟨nd21, 0, none⟩ = some (.iface 55 (.pointer (some ⟨nd23, 0, none⟩))) from hO.cell 8 rfl 0 (rfl))
      have kq9_8_1 := cell_regrown (show u.cell? ⟨nd21, 1, none⟩ = some (.int .i32 ll) from hO.cell 8 rfl 1 (rfl))
      have kq9_8_2 := cell_regrown (show u.cell? ⟨nd21, 2, none⟩ = some (.string nm) from hO.cell 8 rfl 2 (rfl))
      have kq9_8_3 := cell_regrown (show u.cell? ⟨nd21, 3, none⟩ = some (.int .i32 nl) from hO.cell 8 rfl 3 (rfl))
      have kq9_8_4 := cell_regrown (show u.cell? ⟨nd21, 4, none⟩ = some (.int .u8 0) from hO.cell 8 rfl 4 (rfl))
      have kq9_8_5 := cell_regrown (show u.cell? ⟨nd21, 5, none⟩ = some (.bool false) from hO.cell 8 rfl 5 (rfl))
      have kq9_8_6 := cell_regrown (show u.cell? ⟨nd21, 6, none⟩ = some (.bool false) from hO.cell 8 rfl 6 (rfl))
      have kq9_8_7 := cell_regrown (show u.cell? ⟨nd21, 7, none⟩ = some (.bool false) from hO.cell 8 rfl 7 (rfl))
      have kq9_9_0 := cell_regrown (show u.cell? ⟨nd22, 0, none⟩ = some (.iface 55 (.pointer (some ⟨nd24, 0, none⟩))) from hO.cell 9 rfl 0 (rfl))
      have kq9_9_1 := cell_regrown (show u.cell? ⟨nd22, 1, none⟩ = some (.int .i32 ll) from hO.cell 9 rfl 1 (rfl))
      have kq9_9_2 := cell_regrown (show u.cell? ⟨nd22, 2, none⟩ = some (.string nm) from hO.cell 9 rfl 2 (rfl))
      have kq9_9_3 := cell_regrown (show u.cell? ⟨nd22, 3, none⟩ = some (.int .i32 nl) from hO.cell 9 rfl 3 (rfl))
      have kq9_9_4 := cell_regrown (show u.cell? ⟨nd22, 4, none⟩ = some (.int .u8 0) from hO.cell 9 rfl 4 (rfl))
      have kq9_9_5 := cell_regrown (show u.cell? ⟨nd22, 5, none⟩ = some (.bool false) from hO.cell 9 rfl 5 (rfl))
      have kq9_9_6 := cell_regrown (show u.cell? ⟨nd22, 6, none⟩ = some (.bool false) from hO.cell 9 rfl 6 (rfl))
      have kq9_9_7 := cell_regrown (show u.cell? ⟨nd22, 7, none⟩ = some (.bool false) from hO.cell 9 rfl 7 (rfl))
      have kq9_10_0 := cell_regrown (show u.cell? ⟨nd23, 0, none⟩ = some (.int .u32 src) from hO.cell 10 rfl 0 (rfl))
      have kq9_10_1 := cell_regrown (show u.cell? ⟨nd23, 1, none⟩ = some (.int .u32 (m : Int)) from hO.cell 10 rfl 1 (rfl))
      have kq9_10_2 := cell_regrown (show u.cell? ⟨nd23, 2, none⟩ = some (.bool false) from hO.cell 10 rfl 2 (rfl))
      have kq9_10_3 := cell_regrown (show u.cell? ⟨nd23, 3, none⟩ = some (.bool false) from hO.cell 10 rfl 3 (rfl))
      have kq9_10_4 := cell_regrown (show u.cell? ⟨nd23, 4, none⟩ = some (.bool false) from hO.cell 10 rfl 4 (rfl))
      have kq9_11_0 := cell_regrown (show u.cell? ⟨nd24, 0, none⟩ = some (.int .u32 src) from hO.cell 11 rfl 0 (rfl))
      have kq9_11_1 := cell_regrown (show u.cell? ⟨nd24, 1, none⟩ = some (.int .u32 (m : Int)) from hO.cell 11 rfl 1 (rfl))
      have kq9_11_2 := cell_regrown (show u.cell? ⟨nd24, 2, none⟩ = some (.bool false) from hO.cell 11 rfl 2 (rfl))
      have kq9_11_3 := cell_regrown (show u.cell? ⟨nd24, 3, none⟩ = some (.bool false) from hO.cell 11 rfl 3 (rfl))
      have kq9_11_4 := cell_regrown (show u.cell? ⟨nd24, 4, none⟩ = some (.bool false) from hO.cell 11 rfl 4 (rfl))
      have kq9_12_0 := cell_regrown (show u.cell? ⟨B14_13, 0, none⟩ = some (.float .f64 v) from hO.cell 12 rfl 0 (rfl))
      have kq9_13_0 := cell_regrown (show u.cell? ⟨B14_2, 0, none⟩ = some (.int .u32 src) from hO.cell 13 rfl 0 (rfl))
      have kq9_13_1 := cell_regrown (show u.cell? ⟨B14_2, 1, none⟩ = some (.int .u32 (m : Int)) from hO.cell 13 rfl 1 (rfl))
      have kq9_14_0 := cell_regrown (show u.cell? ⟨B14, 0, none⟩ = some (.int .u32 src) from hO.cell 14 rfl 0 (rfl))
      have kq9_14_1 := cell_regrown (show u.cell? ⟨B14, 1, none⟩ = some (.int .u32 (m : Int)) from hO.cell 14 rfl 1 (rfl))
      have kq9_15_0 := cell_regrown (show u.cell? ⟨B2, 0, none⟩ = some (.int .u32 0) from hO.cell 15 rfl 0 (rfl))
      have kq9_15_1 := cell_regrown (show u.cell? ⟨B2, 1, none⟩ = some (.int .u32 (k : Int)) from hO.cell 15 rfl 1 (rfl))
      have pl9_8 := plain_regrown (show Base.plainAt u (nd21) = true from hO.plain 8 rfl)
      have pl9_9 := plain_regrown (show Base.plainAt u (nd22) = true from hO.plain 9 rfl)
      have pl9_10 := plain_regrown (show Base.plainAt u (nd23) = true from hO.plain 10 rfl)
      have pl9_11 := plain_regrown (show Base.plainAt u (nd24) = true from hO.plain 11 rfl)
      have ne9_8_9 : ¬ nd21 = nd22 := hO.ne 8 9 rfl rfl (by decide)
      have ne9_9_8 : ¬ nd22 = nd21 := hO.ne 9 8 rfl rfl (by decide)
      have ne9_10_11 : ¬ nd23 = nd24 := hO.ne 10 11 rfl rfl (by decide)
      have ne9_11_10 : ¬ nd24 = nd23 := hO.ne 11 10 rfl rfl (by decide)
      have HO := Lib.hid hO
      clear hO
      refine wp_region_quiet_below (by kernel_rfl) (by kernel_rfl) ?_
      repeat (quiet_step (first | (go_at_call 23; exact Calls.regrown_of (identIs _ _ _ _ _ (kq9_6_0 _ _) (kq9_6_1 _ _))) | (go_at_call 20; exact Calls.regrown_of (asIdent _ _ _))))
      refine wpQuiet_nil ?_
      intro _ hw'
      obtain ⟨⟨dq, osq⟩, hw''⟩ := hw'
      subst hw''
      have hO := HO.out.step (below_regrown u dq osq)
      clear HO kq9_2_0 kq9_2_1 kq9_2_2 kq9_2_3 kq9_2_4 kq9_2_5 kq9_2_6 kq9_2_7 kq9_3_0 kq9_3_1 kq9_3_2 kq9_3_3 kq9_3_4 kq9_4_0 kq9_4_1 kq9_4_2 kq9_4_3 kq9_4_4 kq9_4_5 kq9_5_0 kq9_5_1 kq9_5_2 kq9_5_3 kq9_5_4 kq9_5_5 kq9_5_6 kq9_5_7 kq9_6_0 kq9_6_1 kq9_6_2 kq9_6_3 kq9_6_4 kq9_7_0 kq9_7_1 kq9_7_2 kq9_7_3 kq9_8_0 kq9_8_1 kq9_8_2 kq9_8_3 kq9_8_4 kq9_8_5 kq9_8_6 kq9_8_7 kq9_9_0 kq9_9_1 kq9_9_2 kq9_9_3 kq9_9_4 kq9_9_5 kq9_9_6 kq9_9_7 kq9_10_0 kq9_10_1 kq9_10_2 kq9_10_3 kq9_10_4 kq9_11_0 kq9_11_1 kq9_11_2 kq9_11_3 kq9_11_4 kq9_12_0 kq9_13_0 kq9_13_1 kq9_14_0 kq9_14_1 kq9_15_0 kq9_15_1 pl9_8 pl9_9 pl9_10 pl9_11 ne9_8_9 ne9_9_8 ne9_10_11 ne9_11_10
      generalize grow (redrawn u dq) osq = V30 at hO ⊢
      clear dq osq
      have hN : Own w0 V30 [row (nd5) 207 nd8, row (nd6) 223 (bumped (bumped (bumped nd9 m (0 : Nat)) m (1 : Nat)) k (0 : Nat)), row (B14_9) 85 #[.iface 55 (.pointer (some ⟨B14_4, 0, none⟩)), .int .i32 tl, .string nm, .int .i32 nl, .int .u8 0, .bool false, .bool false, .bool false], row (B14_4) 214 #[.int .u32 src, .int .u32 (m : Int), .bool false, .bool false, .bool false], row (nd17) 47 #[.iface 81 (.pointer (some ⟨nd21, 0, none⟩)), .int .i32 ll, .iface 72 (.pointer (some ⟨nd18, 0, none⟩)), .int .i32 loc, .int .u8 37, .bool false], row (nd18) 77 #[.iface 55 (.pointer (some ⟨nd19, 0, none⟩)), .int .i32 loc, .slice (some ⟨nd20, 0, none⟩) 2 2, .int .i32 0, .int .u8 0, .int .u8 0, .bool false, .bool false], row (nd19) 214 #[.int .u32 0, .int .u32 (k : Int), .bool false, .bool false, .bool false], row (nd20) 34 #[.iface 81 (.pointer (some ⟨nd22, 0, none⟩)), .int .i32 ll, .iface 36 (.pointer (some ⟨B14_13, 0, none⟩)), .int .i32 loc], row (nd21) 85 #[.iface 55 (.pointer (some ⟨nd23, 0, none⟩)), .int .i32 ll, .string nm, .int .i32 nl, .int .u8 0, .bool false, .bool false, .bool false], row (nd22) 85 #[.iface 55 (.pointer (some ⟨nd24, 0, none⟩)), .int .i32 ll, .string nm, .int .i32 nl, .int .u8 0, .bool false, .bool false, .bool false], row (nd23) 214 #[.int .u32 src, .int .u32 (m : Int), .bool false, .bool false, .bool false], row (nd24) 214 #[.int .u32 src, .int .u32 (m : Int), .bool false, .bool false, .bool false], row (B14_13) 50 #[.float .f64 v], row (B14_2) 28 #[.int .u32 src, .int .u32 (m : Int)], row (B14) 28 #[.int .u32 src, .int .u32 (m : Int)], row (B2) 28 #[.int .u32 0, .int .u32 (k : Int)]] X := hO.sub [0, 1, 2, 3, 4, 5, 6, 7, 8, 9, 10, 11, 12, 13, 14, 15] (by decide)
      clear hO
      have hO := hN
      clear hN
      have pl9_2 : Base.plainAt V30 (B14_9) = true := hO.plain 2 rfl
      have pl9_8 : Base.plainAt V30 (nd21) = true := hO.plain 8 rfl
      have pl9_9 : Base.plainAt V30 (nd22) = true := hO.plain 9 rfl
      have pl9_10 : Base.plainAt V30 (nd23) = true := hO.plain 10 rfl
      have pl9_11 : Base.plainAt V30 (nd24) = true := hO.plain 11 rfl
      have ne9_2_8 : ¬ B14_9 = nd21 := hO.ne 2 8 rfl rfl (by decide)
      have ne9_2_9 : ¬ B14_9 = nd22 := hO.ne 2 9 rfl rfl (by decide)
      have ne9_8_2 : ¬ nd21 = B14_9 := hO.ne 8 2 rfl rfl (by decide)
      have ne9_8_9 : ¬ nd21 = nd22 := hO.ne 8 9 rfl rfl (by decide)
      have ne9_9_2 : ¬ nd22 = B14_9 := hO.ne 9 2 rfl rfl (by decide)
      have ne9_9_8 : ¬ nd22 = nd21 := hO.ne 9 8 rfl rfl (by decide)
      have ne9_10_11 : ¬ nd23 = nd24 := hO.ne 10 11 rfl rfl (by decide)
      have ne9_11_10 : ¬ nd24 = nd23 := hO.ne 11 10 rfl rfl (by decide)
      have c9_2_0 : V30.cell? ⟨B14_9, 0, none⟩ = some (.iface 55 (.pointer (some ⟨B14_4, 0, none⟩))) := hO.cell 2 rfl 0 rfl
      have c9_2_1 : V30.cell? ⟨B14_9, 1, none⟩ = some (.int .i32 tl) := hO.cell 2 rfl 1 rfl
      have c9_2_2 : V30.cell? ⟨B14_9, 2, none⟩ = some (.string nm) := hO.cell 2 rfl 2 rfl
      have c9_2_3 : V30.cell? ⟨B14_9, 3, none⟩ = some (.int .i32 nl) := hO.cell 2 rfl 3 rfl
      have c9_2_4 : V30.cell? ⟨B14_9, 4, none⟩ = some (.int .u8 0) := hO.cell 2 rfl 4 rfl
      have c9_2_5 : V30.cell? ⟨B14_9, 5, none⟩ = some (.bool false) := hO.cell 2 rfl 5 rfl
      have c9_2_6 : V30.cell? ⟨B14_9, 6, none⟩ = some (.bool false) := hO.cell 2 rfl 6 rfl
      have c9_2_7 : V30.cell? ⟨B14_9, 7, none⟩ = some (.bool false) := hO.cell 2 rfl 7 rfl
      have lt9_2 : B14_9 < V30.heap.size := hO.lt 2 rfl
      have y9_2 : ∀ o, V30.frozen? ⟨B14_9, o, none⟩ = false := hO.free 2 rfl
      have c9_3_0 : V30.cell? ⟨B14_4, 0, none⟩ = some (.int .u32 src) := hO.cell 3 rfl 0 rfl
      have c9_3_1 : V30.cell? ⟨B14_4, 1, none⟩ = some (.int .u32 (m : Int)) := hO.cell 3 rfl 1 rfl
      have c9_3_2 : V30.cell? ⟨B14_4, 2, none⟩ = some (.bool false) := hO.cell 3 rfl 2 rfl
      have c9_3_3 : V30.cell? ⟨B14_4, 3, none⟩ = some (.bool false) := hO.cell 3 rfl 3 rfl
      have c9_3_4 : V30.cell? ⟨B14_4, 4, none⟩ = some (.bool false) := hO.cell 3 rfl 4 rfl
      have lt9_3 : B14_4 < V30.heap.size := hO.lt 3 rfl
      have y9_3 : ∀ o, V30.frozen? ⟨B14_4, o, none⟩ = false := hO.free 3 rfl
      have c9_4_0 : V30.cell? ⟨nd17, 0, none⟩ = some (.iface 81 (.pointer (some ⟨nd21, 0, none⟩))) := hO.cell 4 rfl 0 rfl
      have c9_4_1 : V30.cell? ⟨nd17, 1, none⟩ = some (.int .i32 ll) := hO.cell 4 rfl 1 rfl
      have c9_4_2 : V30.cell? ⟨nd17, 2, none⟩ = some (.iface 72 (.pointer (some ⟨nd18, 0, none⟩))) := hO.cell 4 rfl 2 rfl
      have c9_4_3 : V30.cell? ⟨nd17, 3, none⟩ = some (.int .i32 loc) := hO.cell 4 rfl 3 rfl
      have c9_4_4 : V30.cell? ⟨nd17, 4, none⟩ = some (.int .u8 37) := hO.cell 4 rfl 4 rfl
      have c9_4_5 : V30.cell? ⟨nd17, 5, none⟩ = some (.bool false) := hO.cell 4 rfl 5 rfl
      have lt9_4 : nd17 < V30.heap.size := hO.lt 4 rfl
      have y9_4 : ∀ o, V30.frozen? ⟨nd17, o, none⟩ = false := hO.free 4 rfl
      have c9_5_0 : V30.cell? ⟨nd18, 0, none⟩ = some (.iface 55 (.pointer (some ⟨nd19, 0, none⟩))) := hO.cell 5 rfl 0 rfl
      have c9_5_1 : V30.cell? ⟨nd18, 1, none⟩ = some (.int .i32 loc) := hO.cell 5 rfl 1 rfl
      have c9_5_2 : V30.cell? ⟨nd18, 2, none⟩ = some (.slice (some ⟨nd20, 0, none⟩) 2 2) := hO.cell 5 rfl 2 rfl
      have c9_5_3 : V30.cell? ⟨nd18, 3, none⟩ = some (.int .i32 0) := hO.cell 5 rfl 3 rfl
      have c9_5_4 : V30.cell? ⟨nd18, 4, none⟩ = some (.int .u8 0) := hO.cell 5 rfl 4 rfl
      have c9_5_5 : V30.cell? ⟨nd18, 5, none⟩ = some (.int .u8 0) := hO.cell 5 rfl 5 rfl
      have c9_5_6 : V30.cell? ⟨nd18, 6, none⟩ = some (.bool false) := hO.cell 5 rfl 6 rfl
      have c9_5_7 : V30.cell? ⟨nd18, 7, none⟩ = some (.bool false) := hO.cell 5 rfl 7 rfl
      have lt9_5 : nd18 < V30.heap.size := hO.lt 5 rfl
      have y9_5 : ∀ o, V30.frozen? ⟨nd18, o, none⟩ = false := hO.free 5 rfl
      have c9_6_0 : V30.cell? ⟨nd19, 0, none⟩ = some (.int .u32 0) := hO.cell 6 rfl 0 rfl
      have c9_6_1 : V30.cell? ⟨nd19, 1, none⟩ = some (.int .u32 (k : Int)) := hO.cell 6 rfl 1 rfl
      have c9_6_2 : V30.cell? ⟨nd19, 2, none⟩ = some (.bool false) := hO.cell 6 rfl 2 rfl
      have c9_6_3 : V30.cell? ⟨nd19, 3, none⟩ = some (.bool false) := hO.cell 6 rfl 3 rfl
      have c9_6_4 : V30.cell? ⟨nd19, 4, none⟩ = some (.bool false) := hO.cell 6 rfl 4 rfl
      have lt9_6 : nd19 < V30.heap.size := hO.lt 6 rfl
      have y9_6 : ∀ o, V30.frozen? ⟨nd19, o, none⟩ = false := hO.free 6 rfl
      have c9_7_0 : V30.cell? ⟨nd20, 0, none⟩ = some (.iface 81 (.pointer (some ⟨nd22, 0, none⟩))) := hO.cell 7 rfl 0 rfl
      have c9_7_1 : V30.cell? ⟨nd20, 1, none⟩ = some (.int .i32 ll) := hO.cell 7 rfl 1 rfl
      have c9_7_2 : V30.cell? ⟨nd20, 2, none⟩ = some (.iface 36 (.pointer (some ⟨B14_13, 0, none⟩))) := hO.cell 7 rfl 2 rfl
      have c9_7_3 : V30.cell? ⟨nd20, 3, none⟩ = some (.int .i32 loc) := hO.cell 7 rfl 3 rfl
      have lt9_7 : nd20 < V30.heap.size := hO.lt 7 rfl
      have y9_7 : ∀ o, V30.frozen? ⟨nd20, o, none⟩ = false := hO.free 7 rfl
      have c9_8_0 : V30.cell? ⟨nd21, 0, none⟩ = some (.iface 55 (.pointer (some ⟨nd23, 0, none⟩))) := hO.cell 8 rfl 0 rfl
      have c9_8_1 : V30.cell? ⟨nd21, 1, none⟩ = some (.int .i32 ll) := hO.cell 8 rfl 1 rfl
      have c9_8_2 : V30.cell? ⟨nd21, 2, none⟩ = some (.string nm) := hO.cell 8 rfl 2 rfl
      have c9_8_3 : V30.cell? ⟨nd21, 3, none⟩ = some (.int .i32 nl) := hO.cell 8 rfl 3 rfl
      have c9_8_4 : V30.cell? ⟨nd21, 4, none⟩ = some (.int .u8 0) := hO.cell 8 rfl 4 rfl
      have c9_8_5 : V30.cell? ⟨nd21, 5, none⟩ = some (.bool false) := hO.cell 8 rfl 5 rfl
      have c9_8_6 : V30.cell? ⟨nd21, 6, none⟩ = some (.bool false) := hO.cell 8 rfl 6 rfl
      have c9_8_7 : V30.cell? ⟨nd21, 7, none⟩ = some (.bool false) := hO.cell 8 rfl 7 rfl
      have lt9_8 : nd21 < V30.heap.size := hO.lt 8 rfl
      have y9_8 : ∀ o, V30.frozen? ⟨nd21, o, none⟩ = false := hO.free 8 rfl
      have c9_9_0 : V30.cell? ⟨nd22, 0, none⟩ = some (.iface 55 (.pointer (some ⟨nd24, 0, none⟩))) := hO.cell 9 rfl 0 rfl
      have c9_9_1 : V30.cell? ⟨nd22, 1, none⟩ = some (.int .i32 ll) := hO.cell 9 rfl 1 rfl
      have c9_9_2 : V30.cell? ⟨nd22, 2, none⟩ = some (.string nm) := hO.cell 9 rfl 2 rfl
      have c9_9_3 : V30.cell? ⟨nd22, 3, none⟩ = some (.int .i32 nl) := hO.cell 9 rfl 3 rfl
      have c9_9_4 : V30.cell? ⟨nd22, 4, none⟩ = some (.int .u8 0) := hO.cell 9 rfl 4 rfl
      have c9_9_5 : V30.cell? ⟨nd22, 5, none⟩ = some (.bool false) := hO.cell 9 rfl 5 rfl
      have c9_9_6 : V30.cell? ⟨nd22, 6, none⟩ = some (.bool false) := hO.cell 9 rfl 6 rfl
      have c9_9_7 : V30.cell? ⟨nd22, 7, none⟩ = some (.bool false) := hO.cell 9 rfl 7 rfl
      have lt9_9 : nd22 < V30.heap.size := hO.lt 9 rfl
      have y9_9 : ∀ o, V30.frozen? ⟨nd22, o, none⟩ = false := hO.free 9 rfl
      have c9_10_0 : V30.cell? ⟨nd23, 0, none⟩ = some (.int .u32 src) := hO.cell 10 rfl 0 rfl
      have c9_10_1 : V30.cell? ⟨nd23, 1, none⟩ = some (.int .u32 (m : Int)) := hO.cell 10 rfl 1 rfl
      have c9_10_2 : V30.cell? ⟨nd23, 2, none⟩ = some (.bool false) := hO.cell 10 rfl 2 rfl
      have c9_10_3 : V30.cell? ⟨nd23, 3, none⟩ = some (.bool false) := hO.cell 10 rfl 3 rfl
      have c9_10_4 : V30.cell? ⟨nd23, 4, none⟩ = some (.bool false) := hO.cell 10 rfl 4 rfl
      have lt9_10 : nd23 < V30.heap.size := hO.lt 10 rfl
      have y9_10 : ∀ o, V30.frozen? ⟨nd23, o, none⟩ = false := hO.free 10 rfl
      have c9_11_0 : V30.cell? ⟨nd24, 0, none⟩ = some (.int .u32 src) := hO.cell 11 rfl 0 rfl
      have c9_11_1 : V30.cell? ⟨nd24, 1, none⟩ = some (.int .u32 (m : Int)) := hO.cell 11 rfl 1 rfl
      have c9_11_2 : V30.cell? ⟨nd24, 2, none⟩ = some (.bool false) := hO.cell 11 rfl 2 rfl
      have c9_11_3 : V30.cell? ⟨nd24, 3, none⟩ = some (.bool false) := hO.cell 11 rfl 3 rfl
      have c9_11_4 : V30.cell? ⟨nd24, 4, none⟩ = some (.bool false) := hO.cell 11 rfl 4 rfl
      have lt9_11 : nd24 < V30.heap.size := hO.lt 11 rfl
      have y9_11 : ∀ o, V30.frozen? ⟨nd24, o, none⟩ = false := hO.free 11 rfl
      have c9_12_0 : V30.cell? ⟨B14_13, 0, none⟩ = some (.float .f64 v) := hO.cell 12 rfl 0 rfl
      have lt9_12 : B14_13 < V30.heap.size := hO.lt 12 rfl
      have y9_12 : ∀ o, V30.frozen? ⟨B14_13, o, none⟩ = false := hO.free 12 rfl
      have c9_13_0 : V30.cell? ⟨B14_2, 0, none⟩ = some (.int .u32 src) := hO.cell 13 rfl 0 rfl
      have c9_13_1 : V30.cell? ⟨B14_2, 1, none⟩ = some (.int .u32 (m : Int)) := hO.cell 13 rfl 1 rfl
      have lt9_13 : B14_2 < V30.heap.size := hO.lt 13 rfl
      have y9_13 : ∀ o, V30.frozen? ⟨B14_2, o, none⟩ = false := hO.free 13 rfl
      have c9_14_0 : V30.cell? ⟨B14, 0, none⟩ = some (.int .u32 src) := hO.cell 14 rfl 0 rfl
      have c9_14_1 : V30.cell? ⟨B14, 1, none⟩ = some (.int .u32 (m : Int)) := hO.cell 14 rfl 1 rfl
      have lt9_14 : B14 < V30.heap.size := hO.lt 14 rfl
      have y9_14 : ∀ o, V30.frozen? ⟨B14, o, none⟩ = false := hO.free 14 rfl
      have c9_15_0 : V30.cell? ⟨B2, 0, none⟩ = some (.int .u32 0) := hO.cell 15 rfl 0 rfl
      have c9_15_1 : V30.cell? ⟨B2, 1, none⟩ = some (.int .u32 (k : Int)) := hO.cell 15 rfl 1 rfl
      have lt9_15 : B2 < V30.heap.size := hO.lt 15 rfl
      have y9_15 : ∀ o, V30.frozen? ⟨B2, o, none⟩ = false := hO.free 15 rfl
      have HO := Lib.hid hO
      clear hO
      go_wp2_with (first | (go_at_call 19; go_in) | (go_at_call 11; go_in) | (go_at_call 31; go_in) | (go_at_call 32; go_in) | (go_at_call 12; go_in) | (go_at_call 15; go_in) | (go_at_call 29; go_in) | (go_at_call 20; go_in))
      have hO := HO.out
      clear HO pl9_2 pl9_8 pl9_9 pl9_10 pl9_11 ne9_2_8 ne9_2_9 ne9_8_2 ne9_8_9 ne9_9_2 ne9_9_8 ne9_10_11 ne9_11_10 c9_2_0 c9_2_1 c9_2_2 c9_2_3 c9_2_4 c9_2_5 c9_2_6 c9_2_7 lt9_2 y9_2 c9_3_0 c9_3_1 c9_3_2 c9_3_3 c9_3_4 lt9_3 y9_3 c9_4_0 c9_4_1 c9_4_2 c9_4_3 c9_4_4 c9_4_5 lt9_4 y9_4 c9_5_0 c9_5_1 c9_5_2 c9_5_3 c9_5_4 c9_5_5 c9_5_6 c9_5_7 lt9_5 y9_5 c9_6_0 c9_6_1 c9_6_2 c9_6_3 c9_6_4 lt9_6 y9_6 c9_7_0 c9_7_1 c9_7_2 c9_7_3 lt9_7 y9_7 c9_8_0 c9_8_1 c9_8_2 c9_8_3 c9_8_4 c9_8_5 c9_8_6 c9_8_7 lt9_8 y9_8 c9_9_0 c9_9_1 c9_9_2 c9_9_3 c9_9_4 c9_9_5 c9_9_6 c9_9_7 lt9_9 y9_9 c9_10_0 c9_10_1 c9_10_2 c9_10_3 c9_10_4 lt9_10 y9_10 c9_11_0 c9_11_1 c9_11_2 c9_11_3 c9_11_4 lt9_11 y9_11 c9_12_0 lt9_12 y9_12 c9_13_0 c9_13_1 lt9_13 y9_13 c9_14_0 c9_14_1 lt9_14 y9_14 c9_15_0 c9_15_1 lt9_15 y9_15
      generalize hW : World.alloc _ _ = W32
      have hN : Own w0 W32 [row (V30.heap.size) 34 #[.iface 36 (.pointer (some ⟨B14_13, 0, none⟩)), .int .i32 loc], row (nd5) 207 nd8, row (nd6) 223 (bumped (bumped (bumped nd9 m (0 : Nat)) m (1 : Nat)) k (0 : Nat)), row (B14_9) 85 #[.iface 55 (.pointer (some ⟨B14_4, 0, none⟩)), .int .i32 tl, .string nm, .int .i32 nl, .int .u8 0, .bool false, .bool false, .bool false], row (B14_4) 214 #[.int .u32 src, .int .u32 (m : Int), .bool false, .bool false, .bool false], row (nd17) 47 #[.iface 81 (.pointer (some ⟨nd21, 0, none⟩)), .int .i32 ll, .iface 72 (.pointer (some ⟨nd18, 0, none⟩)), .int .i32 loc, .int .u8 37, .bool false], row (nd18) 77 #[.iface 55 (.pointer (some ⟨nd19, 0, none⟩)), .int .i32 loc, .slice (some ⟨nd20, 0, none⟩) 2 2, .int .i32 0, .int .u8 0, .int .u8 0, .bool false, .bool false], row (nd19) 214 #[.int .u32 0, .int .u32 (k : Int), .bool false, .bool false, .bool false], row (nd20) 34 #[.iface 81 (.pointer (some ⟨nd22, 0, none⟩)), .int .i32 ll, .iface 36 (.pointer (some ⟨B14_13, 0, none⟩)), .int .i32 loc], row (nd21) 85 #[.iface 55 (.pointer (some ⟨nd23, 0, none⟩)), .int .i32 ll, .string nm, .int .i32 nl, .int .u8 0, .bool false, .bool false, .bool false], row (nd22) 85 #[.iface 55 (.pointer (some ⟨nd24, 0, none⟩)), .int .i32 ll, .string nm, .int .i32 nl, .int .u8 0, .bool false, .bool false, .bool false], row (nd23) 214 #[.int .u32 src, .int .u32 (m : Int), .bool false, .bool false, .bool false], row (nd24) 214 #[.int .u32 src, .int .u32 (m : Int), .bool false, .bool false, .bool false], row (B14_13) 50 #[.float .f64 v], row (B14_2) 28 #[.int .u32 src, .int .u32 (m : Int)], row (B14) 28 #[.int .u32 src, .int .u32 (m : Int)], row (B2) 28 #[.int .u32 0, .int .u32 (k : Int)]] X := by
        rw [← hW]
        exact (hO).alloc' _ (V30.heap.size) (by simp)
      clear hW hO
      generalize V30.heap.size = B31 at hN ⊢
      have hO := hN
      clear hN
      rw [show ((m : Int) + 1) = ((m + 1 : Nat) : Int) from rfl]
      have hN : Own w0 W32 [row (nd5) 207 nd8, row (nd6) 223 (bumped (bumped (bumped nd9 m (0 : Nat)) m (1 : Nat)) k (0 : Nat))] X := hO.sub [1, 2] (by decide)
      clear hO
      have hO := hN
      clear hN
      clear hl9 hq hq2
      have hL := hO.apart
      have hX := hO.apartX
      have HL := Lib.hid hL
      have HX := Lib.hid hX
      clear hL hX
      have hP9 := hO.pick [0, 1] (by decide)
      have h9_hn : (m + 1 : Nat) ≤ 65537 := (by omega)
      have h9_hu : ∀ i, i < (m + 1 : Nat) → (bump (bump (bump (fun _ => 0) m) m) k) i ≤ 4294967295 := (le3 _ _ _)
      have h9_ht : ((l131.sumTo (bump (bump (bump (fun _ => 0) m) m) k) (m + 1 : Nat) : Nat) : Int) = 3 := (by rw [sum3 (by omega) (by omega)]; rfl)
      have T9 := totalO nd5 nd6 (m + 1 : Nat) nd8 (bumped (bumped (bumped nd9 m (0 : Nat)) m (1 : Nat)) k (0 : Nat)) (bump (bump (bump (fun _ => 0) m) m) k) 3 _ _ _ hP9 pr10 h9_hn HC3.out h9_hu h9_ht
      refine Calls.mono T9 ?_
      clear hP9 T9 h9_hn h9_hu h9_ht
      rintro e u33 ⟨rfl, hQ⟩
      have hN : Own w0 u33 [row (nd5) 207 nd8, row (nd6) 223 (bumped (bumped (bumped nd9 m (0 : Nat)) m (1 : Nat)) k (0 : Nat))] X := hQ.back HL.out HX.out [] (by decide) (by decide)
      clear hQ HL HX hO
      have hO := hN
      clear hN
      have hmk9 : ((m : Int) == (k : Int)) = false := beq_eq_false_iff_ne.2 (by omega)
      go_wp2_with fail
      have hL := hO.apart
      have hX := hO.apartX
      have HL := Lib.hid hL
      have HX := Lib.hid hX
      clear hL hX
      have hP9 := hO.pick [0, 1] (by decide)
      have h9_hn : (m + 1 : Nat) ≤ 65537 := (by omega)
      have h9_hi : m < (m + 1 : Nat) := (by omega)
      have h9_ht : (((bump (bump (bump (fun _ => 0) m) m) k) m : Nat) : Int) = 2 := (by rw [three_l (by omega)]; rfl)
      have T9 := useCountO nd5 nd6 (m + 1 : Nat) nd8 (bumped (bumped (bumped nd9 m (0 : Nat)) m (1 : Nat)) k (0 : Nat)) (bump (bump (bump (fun _ => 0) m) m) k) m 2 _ _ _ hP9 pr10 h9_hn h9_hi HC3.out h9_ht
      refine Calls.mono T9 ?_
      clear hP9 T9 h9_hn h9_hi h9_ht
      rintro e u34 ⟨rfl, hQ⟩
      have hN : Own w0 u34 [row (nd5) 207 nd8, row (nd6) 223 (bumped (bumped (bumped nd9 m (0 : Nat)) m (1 : Nat)) k (0 : Nat))] X := hQ.back HL.out HX.out [] (by decide) (by decide)
      clear hQ HL HX hO
      have hO := hN
      clear hN
      go_wp2_with fail
      have hL := hO.apart
      have hX := hO.apartX
      have HL := Lib.hid hL
      have HX := Lib.hid hX
      clear hL hX
      have hP9 := hO.pick [0, 1] (by decide)
      have h9_hn : (m + 1 : Nat) ≤ 65537 := (by omega)
      have h9_hi : k < (m + 1 : Nat) := (by omega)
      have h9_ht : (((bump (bump (bump (fun _ => 0) m) m) k) k : Nat) : Int) = 1 := (by rw [three_r (by omega)]; rfl)
      have T9 := useCountO nd5 nd6 (m + 1 : Nat) nd8 (bumped (bumped (bumped nd9 m (0 : Nat)) m (1 : Nat)) k (0 : Nat)) (bump (bump (bump (fun _ => 0) m) m) k) k 1 _ _ _ hP9 pr10 h9_hn h9_hi HC3.out h9_ht
      refine Calls.mono T9 ?_
      clear hP9 T9 h9_hn h9_hi h9_ht
      rintro e u35 ⟨rfl, hQ⟩
      have hN : Own w0 u35 [row (nd5) 207 nd8, row (nd6) 223 (bumped (bumped (bumped nd9 m (0 : Nat)) m (1 : Nat)) k (0 : Nat))] X := hQ.back HL.out HX.out [] (by decide) (by decide)
      clear hQ HL HX hO
      have hO := hN
      clear hN
      go_wp2_with fail
      refine bodyPost_ret (v := .bool true) ?_ rfl ⟨rfl, hO.sub [] (by decide)⟩
      simp [results, Tryd.results8, go_sem]
end Go.Proofs.YtlgefnjkoklboaaDoor.Use
