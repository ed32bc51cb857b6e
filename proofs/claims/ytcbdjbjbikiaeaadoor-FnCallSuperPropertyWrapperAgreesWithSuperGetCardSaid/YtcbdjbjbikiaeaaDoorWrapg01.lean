/- The law on the wrapper and the getter, walked: one of four cases. No condition. -/
import Derived.Test.YtcbdjbjbikiaeaaDoorOwnK
import Derived.Test.YtcbdjbjbikiaeaaDoorOwn
import Derived.Test.YtcbdjbjbikiaeaaDoorDeepCells
import Derived.Test.YtcbdjbjbikiaeaaDoorRows
import Derived.Test.YtcbdjbjbikiaeaaDoorDead
import Derived.Test.YtcbdjbjbikiaeaaDoorNew
import Derived.Test.YtcbdjbjbikiaeaaDoorStr
import Derived.Test.YtcbdjbjbikiaeaaDoorStrX
import Derived.Test.YtcbdjbjbikiaeaaDoorShapes
import Derived.Test.YtcbdjbjbikiaeaaDoorDoorGet
import Derived.Test.YtcbdjbjbikiaeaaDoorDoorWrap
import Derived.Test.YtcbdjbjbikiaeaaDoorArgs
namespace Go.Proofs.YtcbdjbjbikiaeaaDoor.Use
open Go.ChangeShapes Go.WideShapes Go.ChangeAt Go.RowKit Go.Sort Own
set_option linter.unusedVariables false
def rMns9E (loc : Int) (kl : Int) (nd14 : Nat) (nd21 : Nat) (nd30 : Nat) (nd31 : Nat) (nd32 : Nat) (nd39 : Nat) (nd40 : Nat) (nd41 : Nat) : Nat → Rega.Atoms → Value
  | 0, α => .slice (some ⟨nd30, 0, none⟩) 3 3
  | 1, α => .pointer (some ⟨nd30, 0, none⟩)
  | 2, α => .agg #[.iface 220 (.pointer (some ⟨nd31, 0, none⟩)), .int .i32 loc]
  | 3, α => .slice (some ⟨nd39, 0, none⟩) 3 3
  | 4, α => .pointer (some ⟨nd39, 0, none⟩)
  | 5, α => .agg #[.iface 220 (.pointer (some ⟨nd40, 0, none⟩)), .int .i32 loc]
  | 6, α => .bool true
  | 7, α => .bool false
  | 8, α => .bool false
  | 9, α => .slice (some ⟨nd30, 0, none⟩) 3 3
  | 10, α => .pointer (some ⟨nd30, 2, none⟩)
  | 11, α => .agg #[.iface 247 (.pointer (some ⟨nd32, 0, none⟩)), .int .i32 loc]
  | 12, α => .slice (some ⟨nd39, 0, none⟩) 3 3
  | 13, α => .pointer (some ⟨nd39, 2, none⟩)
  | 14, α => .agg #[.iface 247 (.pointer (some ⟨nd41, 0, none⟩)), .int .i32 loc]
  | 15, α => .bool true
  | 16, α => .bool false
  | 17, α => .bool false
  | _, _ => undef
def rMns9Anc : Nat → List Nat
  | 1 => [0]
  | 2 => [0, 1]
  | 4 => [3]
  | 5 => [3, 4]
  | 6 => [0, 1, 2, 3, 4, 5]
  | 7 => [0, 1, 2, 3, 4, 5, 6]
  | 8 => [0, 1, 2, 3, 4, 5, 6, 7]
  | 9 => [0, 1, 2, 3, 4, 5, 6, 7, 8]
  | 10 => [0, 1, 2, 3, 4, 5, 6, 7, 8, 9]
  | 11 => [0, 1, 2, 3, 4, 5, 6, 7, 8, 9, 10]
  | 12 => [0, 1, 2, 3, 4, 5, 6, 7, 8]
  | 13 => [0, 1, 2, 3, 4, 5, 6, 7, 8, 12]
  | 14 => [0, 1, 2, 3, 4, 5, 6, 7, 8, 12, 13]
  | 15 => [0, 1, 2, 3, 4, 5, 6, 7, 8, 9, 10, 11, 12, 13, 14]
  | 16 => [0, 1, 2, 3, 4, 5, 6, 7, 8, 9, 10, 11, 12, 13, 14, 15]
  | 17 => [0, 1, 2, 3, 4, 5, 6, 7, 8, 9, 10, 11, 12, 13, 14, 15, 16]
  | _ => []
def rMns9Trn : Nat → List Nat
  | _ => []
def rMns9Cnt : List (Nat × Nat) := []
def rMns9R (loc : Int) (kl : Int) (nd14 : Nat) (nd21 : Nat) (nd30 : Nat) (nd31 : Nat) (nd32 : Nat) (nd39 : Nat) (nd40 : Nat) (nd41 : Nat) (L9 : Nat → Bool) (α : Rega.Atoms) (ix9 : Nat) : Rw := if ix9 = 999 then row (nd39) 30 #[.iface 220 (.pointer (some ⟨nd40, 0, none⟩)), .int .i32 loc, .iface 247 (.pointer (some ⟨nd41, 0, none⟩)), .int .i32 loc, .iface 50 (.pointer (some ⟨nd21, 0, none⟩)), .int .i32 kl] else if ix9 = 1999 then row (nd40) 223 #[.int .u32 0, .int .u32 1, .bool false, .bool false, .bool false] else if ix9 = 2999 then row (nd30) 30 #[.iface 220 (.pointer (some ⟨nd31, 0, none⟩)), .int .i32 loc, .iface 247 (.pointer (some ⟨nd32, 0, none⟩)), .int .i32 loc, .iface 50 (.pointer (some ⟨nd14, 0, none⟩)), .int .i32 kl] else if ix9 = 3999 then row (nd31) 223 #[.int .u32 0, .int .u32 1, .bool false, .bool false, .bool false] else (0, .map #[] 0)
theorem rMns9_he (loc : Int) (kl : Int) (nd14 : Nat) (nd21 : Nat) (nd30 : Nat) (nd31 : Nat) (nd32 : Nat) (nd39 : Nat) (nd40 : Nat) (nd41 : Nat) : ∀ kk α α', (∀ j, (j % 1000 = kk ∨ j % 1000 ∈ rMns9Anc kk) → α j = α' j) → rMns9E loc kl nd14 nd21 nd30 nd31 nd32 nd39 nd40 nd41 kk α = rMns9E loc kl nd14 nd21 nd30 nd31 nd32 nd39 nd40 nd41 kk α' := by
  intro kk α α' h
  match kk with
  | 0 => rfl
  | 1 => rfl
  | 2 => rfl
  | 3 => rfl
  | 4 => rfl
  | 5 => rfl
  | 6 => rfl
  | 7 => rfl
  | 8 => rfl
  | 9 => rfl
  | 10 => rfl
  | 11 => rfl
  | 12 => rfl
  | 13 => rfl
  | 14 => rfl
  | 15 => rfl
  | 16 => rfl
  | 17 => rfl
  | n + 18 => rfl
theorem rMns9_st (loc : Int) (kl : Int) (nd14 : Nat) (nd21 : Nat) (nd30 : Nat) (nd31 : Nat) (nd32 : Nat) (nd39 : Nat) (nd40 : Nat) (nd41 : Nat) : Stable rMns9Cnt 4 rMns9Anc rMns9Trn (rMns9R loc kl nd14 nd21 nd30 nd31 nd32 nd39 nd40 nd41) := by
  intro k9 L9 α α' ix9 hk hcl hα hact ht
  have hp := act_places hact
  replace hp : ix9 ∈ [999, 1999, 2999, 3999] := hp
  simp only [List.mem_cons, List.not_mem_nil, or_false] at hp
  rcases hp with rfl | rfl | rfl | rfl
  · rfl
  · rfl
  · rfl
  · rfl
def rMns10E (loc : Int) (kl : Int) (nd14 : Nat) (B18 : Nat) (nd21 : Nat) (B25 : Nat) (nd30 : Nat) (nd31 : Nat) (nd32 : Nat) (nd39 : Nat) (nd40 : Nat) (nd41 : Nat) : Nat → Rega.Atoms → Value
  | 0, α => .slice (some ⟨nd30, 0, none⟩) 3 3
  | 1, α => .pointer (some ⟨nd30, 4, none⟩)
  | 2, α => .agg #[.iface 50 (.pointer (some ⟨nd14, 0, none⟩)), .int .i32 kl]
  | 3, α => .pointer (some ⟨nd14, 0, none⟩)
  | 4, α => .agg #[.iface 50 (.pointer (some ⟨nd14, 0, none⟩)), .int .i32 kl]
  | 5, α => .pointer (some ⟨nd14, 0, none⟩)
  | 6, α => .bool true
  | 7, α => .bool true
  | 8, α => .slice (some ⟨nd39, 0, none⟩) 3 3
  | 9, α => .pointer (some ⟨nd39, 4, none⟩)
  | 10, α => .agg #[.iface 50 (.pointer (some ⟨nd21, 0, none⟩)), .int .i32 kl]
  | 11, α => .pointer (some ⟨nd21, 0, none⟩)
  | 12, α => .agg #[.iface 50 (.pointer (some ⟨nd21, 0, none⟩)), .int .i32 kl]
  | 13, α => .pointer (some ⟨nd21, 0, none⟩)
  | 14, α => .bool true
  | 15, α => .bool true
  | 16, α => .bool true
  | _, _ => undef
def rMns10Anc : Nat → List Nat
  | 1 => [0]
  | 2 => [0, 1]
  | 3 => [0, 1, 2]
  | 5 => [0, 1, 2, 3, 4]
  | 6 => [0, 1, 2, 3, 4, 5]
  | 7 => [0, 1, 2, 3, 4, 5, 6]
  | 8 => [0, 1, 2, 3, 4, 5, 6, 7]
  | 9 => [0, 1, 2, 3, 4, 5, 6, 7, 8]
  | 10 => [0, 1, 2, 3, 4, 5, 6, 7, 8, 9]
  | 11 => [0, 1, 2, 3, 4, 5, 6, 7, 8, 9, 10]
  | 12 => [0, 1, 2, 3, 4, 5, 6, 7]
  | 13 => [0, 1, 2, 3, 4, 5, 6, 7, 8, 9, 10, 11, 12]
  | 14 => [0, 1, 2, 3, 4, 5, 6, 7, 8, 9, 10, 11, 12, 13]
  | 15 => [0, 1, 2, 3, 4, 5, 6, 7, 8, 9, 10, 11, 12, 13, 14]
  | 16 => [0, 1, 2, 3, 4, 5, 6, 7, 8, 9, 10, 11, 12, 13, 14, 15]
  | _ => []
def rMns10Trn : Nat → List Nat
  | _ => []
def rMns10Cnt : List (Nat × Nat) := []
def rMns10R (loc : Int) (kl : Int) (nd14 : Nat) (B18 : Nat) (nd21 : Nat) (B25 : Nat) (nd30 : Nat) (nd31 : Nat) (nd32 : Nat) (nd39 : Nat) (nd40 : Nat) (nd41 : Nat) (L9 : Nat → Bool) (α : Rega.Atoms) (ix9 : Nat) : Rw := if ix9 = 999 then row (nd39) 30 #[.iface 220 (.pointer (some ⟨nd40, 0, none⟩)), .int .i32 loc, .iface 247 (.pointer (some ⟨nd41, 0, none⟩)), .int .i32 loc, .iface 50 (.pointer (some ⟨nd21, 0, none⟩)), .int .i32 kl] else if ix9 = 1999 then row (nd30) 30 #[.iface 220 (.pointer (some ⟨nd31, 0, none⟩)), .int .i32 loc, .iface 247 (.pointer (some ⟨nd32, 0, none⟩)), .int .i32 loc, .iface 50 (.pointer (some ⟨nd14, 0, none⟩)), .int .i32 kl] else if ix9 = 2999 then row (B25) 30 #[.iface 50 (.pointer (some ⟨nd21, 0, none⟩)), .int .i32 kl] else if ix9 = 3999 then row (B18) 30 #[.iface 50 (.pointer (some ⟨nd14, 0, none⟩)), .int .i32 kl] else (0, .map #[] 0)
theorem rMns10_he (loc : Int) (kl : Int) (nd14 : Nat) (B18 : Nat) (nd21 : Nat) (B25 : Nat) (nd30 : Nat) (nd31 : Nat) (nd32 : Nat) (nd39 : Nat) (nd40 : Nat) (nd41 : Nat) : ∀ kk α α', (∀ j, (j % 1000 = kk ∨ j % 1000 ∈ rMns10Anc kk) → α j = α' j) → rMns10E loc kl nd14 B18 nd21 B25 nd30 nd31 nd32 nd39 nd40 nd41 kk α = rMns10E loc kl nd14 B18 nd21 B25 nd30 nd31 nd32 nd39 nd40 nd41 kk α' := by
  intro kk α α' h
  match kk with
  | 0 => rfl
  | 1 => rfl
  | 2 => rfl
  | 3 => rfl
  | 4 => rfl
  | 5 => rfl
  | 6 => rfl
  | 7 => rfl
  | 8 => rfl
  | 9 => rfl
  | 10 => rfl
  | 11 => rfl
  | 12 => rfl
  | 13 => rfl
  | 14 => rfl
  | 15 => rfl
  | 16 => rfl
  | n + 17 => rfl
theorem rMns10_st (loc : Int) (kl : Int) (nd14 : Nat) (B18 : Nat) (nd21 : Nat) (B25 : Nat) (nd30 : Nat) (nd31 : Nat) (nd32 : Nat) (nd39 : Nat) (nd40 : Nat) (nd41 : Nat) : Stable rMns10Cnt 4 rMns10Anc rMns10Trn (rMns10R loc kl nd14 B18 nd21 B25 nd30 nd31 nd32 nd39 nd40 nd41) := by
  intro k9 L9 α α' ix9 hk hcl hα hact ht
  have hp := act_places hact
  replace hp : ix9 ∈ [999, 1999, 2999, 3999] := hp
  simp only [List.mem_cons, List.not_mem_nil, or_false] at hp
  rcases hp with rfl | rfl | rfl | rfl
  · rfl
  · rfl
  · rfl
  · rfl
def law12nsPost (loc kl : Int) (nm : ByteArray) (w0 : World) (X : Nat → Obj → Prop) (e : Ending) (w' : World) : Prop :=
  e = .returned (.bool true) ∧ Own w0 w' [] X
set_option maxRecDepth 100000 in
set_option maxHeartbeats 1000000 in
theorem law12ns (loc kl : Int) (nm : ByteArray) (w0 w : World) (X : Nat → Obj → Prop) (hO : Own w0 w [] X) (hlen : nm.size ≤ 65536) :
    Calls Tryd.prog 4 #[.bool false, .bool true, .int .i32 loc, .int .i32 kl, .string nm] w (law12nsPost loc kl nm w0 X) := by
  go_enter Tryd.func4, Tryd.ntmps4
  have hl9 : (nm.size : Int) ≤ 65536 := by omega
  go_wp2_with (first | (go_at_call 39; go_in) | (go_at_call 40; go_in) | (go_at_call 18; go_in) | (go_at_call 23; go_in) | (go_at_call 21; go_in) | (go_at_call 41; go_in) | (go_at_call 42; go_in) | (go_at_call 28; go_in) | (go_at_call 43; go_in) | (go_at_call 15; go_in))
  have hL := hO.apart
  have hX := hO.apartX
  have HL := Lib.hid hL
  have HX := Lib.hid hX
  clear hL hX
  have hP9 := hO.pick [] (by decide)
  have T9 := newDead true false true _ _ _ hP9 
  refine Calls.mono T9 ?_
  clear hP9 T9
  rintro e u1 ⟨nd2, nd3, nd4, nd5, rfl, pr6, hQ⟩
  have hN : Own w0 u1 [row (nd2) 206 nd5, (nd3, .map #[⟨.string ⟨#[95, 95, 115, 117, 112, 101, 114, 87, 114, 97, 112, 112, 101, 114]⟩, .agg #[.int .i32 0, .int .u32 0, .int .u32 2], 0⟩, ⟨.string ⟨#[95, 95, 115, 117, 112, 101, 114, 71, 101, 116]⟩, .agg #[.int .i32 0, .int .u32 0, .int .u32 3], 1⟩, ⟨.string ⟨#[95, 95, 112, 114, 105, 118, 97, 116, 101, 87, 114, 97, 112, 112, 101, 114]⟩, .agg #[.int .i32 0, .int .u32 0, .int .u32 4], 2⟩] 3), row (nd4) 68 #[.int .u32 0, .int .u32 1]] X := hQ.back HL.out HX.out [] (by decide) (by decide)
  clear hQ HL HX hO
  have hO := hN
  clear hN
  obtain ⟨c9_2_0, c9_2_1, lt9_2, y9_2, -⟩ := hO.k2 2 rfl
  have HO := Lib.hid hO
  clear hO
  go_wp2_with (first | (go_at_call 39; go_in) | (go_at_call 40; go_in) | (go_at_call 18; go_in) | (go_at_call 23; go_in) | (go_at_call 21; go_in) | (go_at_call 41; go_in) | (go_at_call 42; go_in) | (go_at_call 28; go_in) | (go_at_call 43; go_in) | (go_at_call 15; go_in))
  have hO := HO.out
  clear HO c9_2_0 c9_2_1 lt9_2 y9_2
  have hL := hO.apart
  have hX := hO.apartX
  have HL := Lib.hid hL
  have HX := Lib.hid hX
  clear hL hX
  have hP9 := hO.pick [] (by decide)
  have T9 := newDead true false true _ _ _ hP9 
  refine Calls.mono T9 ?_
  clear hP9 T9
  rintro e u7 ⟨nd8, nd9, nd10, nd11, rfl, pr12, hQ⟩
  have hN : Own w0 u7 [row (nd8) 206 nd11, (nd9, .map #[⟨.string ⟨#[95, 95, 115, 117, 112, 101, 114, 87, 114, 97, 112, 112, 101, 114]⟩, .agg #[.int .i32 0, .int .u32 0, .int .u32 2], 0⟩, ⟨.string ⟨#[95, 95, 115, 117, 112, 101, 114, 71, 101, 116]⟩, .agg #[.int .i32 0, .int .u32 0, .int .u32 3], 1⟩, ⟨.string ⟨#[95, 95, 112, 114, 105, 118, 97, 116, 101, 87, 114, 97, 112, 112, 101, 114]⟩, .agg #[.int .i32 0, .int .u32 0, .int .u32 4], 2⟩] 3), row (nd10) 68 #[.int .u32 0, .int .u32 1], row (nd2) 206 nd5, (nd3, .map #[⟨.string ⟨#[95, 95, 115, 117, 112, 101, 114, 87, 114, 97, 112, 112, 101, 114]⟩, .agg #[.int .i32 0, .int .u32 0, .int .u32 2], 0⟩, ⟨.string ⟨#[95, 95, 115, 117, 112, 101, 114, 71, 101, 116]⟩, .agg #[.int .i32 0, .int .u32 0, .int .u32 3], 1⟩, ⟨.string ⟨#[95, 95, 112, 114, 105, 118, 97, 116, 101, 87, 114, 97, 112, 112, 101, 114]⟩, .agg #[.int .i32 0, .int .u32 0, .int .u32 4], 2⟩] 3), row (nd4) 68 #[.int .u32 0, .int .u32 1]] X := hQ.back HL.out HX.out [0, 1, 2] (by decide) (by decide)
  clear hQ HL HX hO
  have hO := hN
  clear hN
  have ne9_0_3 : ¬ nd8 = nd2 := hO.ne 0 3 rfl rfl (by decide)
  have ne9_2_5 : ¬ nd10 = nd4 := hO.ne 2 5 rfl rfl (by decide)
  have ne9_3_0 : ¬ nd2 = nd8 := hO.ne 3 0 rfl rfl (by decide)
  have ne9_5_2 : ¬ nd4 = nd10 := hO.ne 5 2 rfl rfl (by decide)
  have pl9_0 : Base.plainAt u7 (nd8) = true := hO.plain 0 rfl
  obtain ⟨c9_2_0, c9_2_1, lt9_2, y9_2, pl9_2⟩ := hO.k2 2 rfl
  have pl9_3 : Base.plainAt u7 (nd2) = true := hO.plain 3 rfl
  obtain ⟨c9_5_0, c9_5_1, lt9_5, y9_5, pl9_5⟩ := hO.k2 5 rfl
  have HO := Lib.hid hO
  clear hO
  go_wp2_with (first | (go_at_call 39; go_in) | (go_at_call 40; go_in) | (go_at_call 18; go_in) | (go_at_call 23; go_in) | (go_at_call 21; go_in) | (go_at_call 41; go_in) | (go_at_call 42; go_in) | (go_at_call 28; go_in) | (go_at_call 43; go_in) | (go_at_call 15; go_in))
  have hO := HO.out
  clear HO ne9_0_3 ne9_2_5 ne9_3_0 ne9_5_2 pl9_0 c9_2_0 c9_2_1 lt9_2 y9_2 pl9_2 pl9_3 c9_5_0 c9_5_1 lt9_5 y9_5 pl9_5
  have hL := hO.apart
  have hX := hO.apartX
  have HL := Lib.hid hL
  have HX := Lib.hid hX
  clear hL hX
  have hP9 := hO.pick [] (by decide)
  have h9_hlen : nm.size ≤ 1048576 := (by omega)
  have T9 := exprStr kl nm _ _ _ hP9 h9_hlen
  refine Calls.mono T9 ?_
  clear hP9 T9 h9_hlen
  rintro e u13 ⟨nd14, nd15, nd16, nd17, rfl, hQ⟩
  have hN : Own w0 u13 [row (nd14) 214 #[.slice (some ⟨nd15, 0, none⟩) nd16 nd17, .int .i32 0, .bool false, .bool false, .bool false], row (nd8) 206 nd11, (nd9, .map #[⟨.string ⟨#[95, 95, 115, 117, 112, 101, 114, 87, 114, 97, 112, 112, 101, 114]⟩, .agg #[.int .i32 0, .int .u32 0, .int .u32 2], 0⟩, ⟨.string ⟨#[95, 95, 115, 117, 112, 101, 114, 71, 101, 116]⟩, .agg #[.int .i32 0, .int .u32 0, .int .u32 3], 1⟩, ⟨.string ⟨#[95, 95, 112, 114, 105, 118, 97, 116, 101, 87, 114, 97, 112, 112, 101, 114]⟩, .agg #[.int .i32 0, .int .u32 0, .int .u32 4], 2⟩] 3), row (nd10) 68 #[.int .u32 0, .int .u32 1], row (nd2) 206 nd5, (nd3, .map #[⟨.string ⟨#[95, 95, 115, 117, 112, 101, 114, 87, 114, 97, 112, 112, 101, 114]⟩, .agg #[.int .i32 0, .int .u32 0, .int .u32 2], 0⟩, ⟨.string ⟨#[95, 95, 115, 117, 112, 101, 114, 71, 101, 116]⟩, .agg #[.int .i32 0, .int .u32 0, .int .u32 3], 1⟩, ⟨.string ⟨#[95, 95, 112, 114, 105, 118, 97, 116, 101, 87, 114, 97, 112, 112, 101, 114]⟩, .agg #[.int .i32 0, .int .u32 0, .int .u32 4], 2⟩] 3), row (nd4) 68 #[.int .u32 0, .int .u32 1]] X := hQ.back HL.out HX.out [0, 1, 2, 3, 4, 5] (by decide) (by decide)
  clear hQ HL HX hO
  have hO := hN
  clear hN
  have ne9_1_4 : ¬ nd8 = nd2 := hO.ne 1 4 rfl rfl (by decide)
  have ne9_3_6 : ¬ nd10 = nd4 := hO.ne 3 6 rfl rfl (by decide)
  have ne9_4_1 : ¬ nd2 = nd8 := hO.ne 4 1 rfl rfl (by decide)
  have ne9_6_3 : ¬ nd4 = nd10 := hO.ne 6 3 rfl rfl (by decide)
  obtain ⟨c9_0_0, c9_0_1, c9_0_2, c9_0_3, c9_0_4, lt9_0, y9_0, -⟩ := hO.k5 0 rfl
  have pl9_1 : Base.plainAt u13 (nd8) = true := hO.plain 1 rfl
  obtain ⟨c9_3_0, c9_3_1, lt9_3, y9_3, pl9_3⟩ := hO.k2 3 rfl
  have pl9_4 : Base.plainAt u13 (nd2) = true := hO.plain 4 rfl
  obtain ⟨c9_6_0, c9_6_1, lt9_6, y9_6, pl9_6⟩ := hO.k2 6 rfl
  have HO := Lib.hid hO
  clear hO
  go_wp2_with (first | (go_at_call 39; go_in) | (go_at_call 40; go_in) | (go_at_call 18; go_in) | (go_at_call 23; go_in) | (go_at_call 21; go_in) | (go_at_call 41; go_in) | (go_at_call 42; go_in) | (go_at_call 28; go_in) | (go_at_call 43; go_in) | (go_at_call 15; go_in))
  have hO := HO.out
  clear HO ne9_1_4 ne9_3_6 ne9_4_1 ne9_6_3 c9_0_0 c9_0_1 c9_0_2 c9_0_3 c9_0_4 lt9_0 y9_0 pl9_1 c9_3_0 c9_3_1 lt9_3 y9_3 pl9_3 pl9_4 c9_6_0 c9_6_1 lt9_6 y9_6 pl9_6
  generalize hW : World.alloc _ _ = W19
  have hN : Own w0 W19 [row (u13.heap.size) 30 #[.iface 50 (.pointer (some ⟨nd14, 0, none⟩)), .int .i32 kl], row (nd14) 214 #[.slice (some ⟨nd15, 0, none⟩) nd16 nd17, .int .i32 0, .bool false, .bool false, .bool false], row (nd8) 206 nd11, (nd9, .map #[⟨.string ⟨#[95, 95, 115, 117, 112, 101, 114, 87, 114, 97, 112, 112, 101, 114]⟩, .agg #[.int .i32 0, .int .u32 0, .int .u32 2], 0⟩, ⟨.string ⟨#[95, 95, 115, 117, 112, 101, 114, 71, 101, 116]⟩, .agg #[.int .i32 0, .int .u32 0, .int .u32 3], 1⟩, ⟨.string ⟨#[95, 95, 112, 114, 105, 118, 97, 116, 101, 87, 114, 97, 112, 112, 101, 114]⟩, .agg #[.int .i32 0, .int .u32 0, .int .u32 4], 2⟩] 3), row (nd10) 68 #[.int .u32 0, .int .u32 1], row (nd2) 206 nd5, (nd3, .map #[⟨.string ⟨#[95, 95, 115, 117, 112, 101, 114, 87, 114, 97, 112, 112, 101, 114]⟩, .agg #[.int .i32 0, .int .u32 0, .int .u32 2], 0⟩, ⟨.string ⟨#[95, 95, 115, 117, 112, 101, 114, 71, 101, 116]⟩, .agg #[.int .i32 0, .int .u32 0, .int .u32 3], 1⟩, ⟨.string ⟨#[95, 95, 112, 114, 105, 118, 97, 116, 101, 87, 114, 97, 112, 112, 101, 114]⟩, .agg #[.int .i32 0, .int .u32 0, .int .u32 4], 2⟩] 3), row (nd4) 68 #[.int .u32 0, .int .u32 1]] X := by
    rw [← hW]
    exact (hO).alloc' _ (u13.heap.size) (by simp)
  clear hW hO
  generalize u13.heap.size = B18 at hN ⊢
  have hO := hN
  clear hN
  have hL := hO.apart
  have hX := hO.apartX
  have HL := Lib.hid hL
  have HX := Lib.hid hX
  clear hL hX
  have hP9 := hO.pick [] (by decide)
  have h9_hlen : nm.size ≤ 1048576 := (by omega)
  have T9 := exprStr kl nm _ _ _ hP9 h9_hlen
  refine Calls.mono T9 ?_
  clear hP9 T9 h9_hlen
  rintro e u20 ⟨nd21, nd22, nd23, nd24, rfl, hQ⟩
  have hN : Own w0 u20 [row (nd21) 214 #[.slice (some ⟨nd22, 0, none⟩) nd23 nd24, .int .i32 0, .bool false, .bool false, .bool false], row (B18) 30 #[.iface 50 (.pointer (some ⟨nd14, 0, none⟩)), .int .i32 kl], row (nd14) 214 #[.slice (some ⟨nd15, 0, none⟩) nd16 nd17, .int .i32 0, .bool false, .bool false, .bool false], row (nd8) 206 nd11, (nd9, .map #[⟨.string ⟨#[95, 95, 115, 117, 112, 101, 114, 87, 114, 97, 112, 112, 101, 114]⟩, .agg #[.int .i32 0, .int .u32 0, .int .u32 2], 0⟩, ⟨.string ⟨#[95, 95, 115, 117, 112, 101, 114, 71, 101, 116]⟩, .agg #[.int .i32 0, .int .u32 0, .int .u32 3], 1⟩, ⟨.string ⟨#[95, 95, 112, 114, 105, 118, 97, 116, 101, 87, 114, 97, 112, 112, 101, 114]⟩, .agg #[.int .i32 0, .int .u32 0, .int .u32 4], 2⟩] 3), row (nd10) 68 #[.int .u32 0, .int .u32 1], row (nd2) 206 nd5, (nd3, .map #[⟨.string ⟨#[95, 95, 115, 117, 112, 101, 114, 87, 114, 97, 112, 112, 101, 114]⟩, .agg #[.int .i32 0, .int .u32 0, .int .u32 2], 0⟩, ⟨.string ⟨#[95, 95, 115, 117, 112, 101, 114, 71, 101, 116]⟩, .agg #[.int .i32 0, .int .u32 0, .int .u32 3], 1⟩, ⟨.string ⟨#[95, 95, 112, 114, 105, 118, 97, 116, 101, 87, 114, 97, 112, 112, 101, 114]⟩, .agg #[.int .i32 0, .int .u32 0, .int .u32 4], 2⟩] 3), row (nd4) 68 #[.int .u32 0, .int .u32 1]] X := hQ.back HL.out HX.out [0, 1, 2, 3, 4, 5, 6, 7] (by decide) (by decide)
  clear hQ HL HX hO
  have hO := hN
  clear hN
  have ne9_0_2 : ¬ nd21 = nd14 := hO.ne 0 2 rfl rfl (by decide)
  have ne9_2_0 : ¬ nd14 = nd21 := hO.ne 2 0 rfl rfl (by decide)
  have ne9_3_6 : ¬ nd8 = nd2 := hO.ne 3 6 rfl rfl (by decide)
  have ne9_5_8 : ¬ nd10 = nd4 := hO.ne 5 8 rfl rfl (by decide)
  have ne9_6_3 : ¬ nd2 = nd8 := hO.ne 6 3 rfl rfl (by decide)
  have ne9_8_5 : ¬ nd4 = nd10 := hO.ne 8 5 rfl rfl (by decide)
  obtain ⟨c9_0_0, c9_0_1, c9_0_2, c9_0_3, c9_0_4, lt9_0, y9_0, pl9_0⟩ := hO.k5 0 rfl
  obtain ⟨c9_1_0, c9_1_1, lt9_1, y9_1, -⟩ := hO.k2 1 rfl
  obtain ⟨c9_2_0, c9_2_1, c9_2_2, c9_2_3, c9_2_4, lt9_2, y9_2, pl9_2⟩ := hO.k5 2 rfl
  have pl9_3 : Base.plainAt u20 (nd8) = true := hO.plain 3 rfl
  obtain ⟨c9_5_0, c9_5_1, lt9_5, y9_5, pl9_5⟩ := hO.k2 5 rfl
  have pl9_6 : Base.plainAt u20 (nd2) = true := hO.plain 6 rfl
  obtain ⟨c9_8_0, c9_8_1, lt9_8, y9_8, pl9_8⟩ := hO.k2 8 rfl
  have HO := Lib.hid hO
  clear hO
  go_wp2_with (first | (go_at_call 39; go_in) | (go_at_call 40; go_in) | (go_at_call 18; go_in) | (go_at_call 23; go_in) | (go_at_call 21; go_in) | (go_at_call 41; go_in) | (go_at_call 42; go_in) | (go_at_call 28; go_in) | (go_at_call 43; go_in) | (go_at_call 15; go_in))
  have hO := HO.out
  clear HO ne9_0_2 ne9_2_0 ne9_3_6 ne9_5_8 ne9_6_3 ne9_8_5 c9_0_0 c9_0_1 c9_0_2 c9_0_3 c9_0_4 lt9_0 y9_0 pl9_0 c9_1_0 c9_1_1 lt9_1 y9_1 c9_2_0 c9_2_1 c9_2_2 c9_2_3 c9_2_4 lt9_2 y9_2 pl9_2 pl9_3 c9_5_0 c9_5_1 lt9_5 y9_5 pl9_5 pl9_6 c9_8_0 c9_8_1 lt9_8 y9_8 pl9_8
  generalize hW : World.alloc _ _ = W26
  have hN : Own w0 W26 [row (u20.heap.size) 30 #[.iface 50 (.pointer (some ⟨nd21, 0, none⟩)), .int .i32 kl], row (nd21) 214 #[.slice (some ⟨nd22, 0, none⟩) nd23 nd24, .int .i32 0, .bool false, .bool false, .bool false], row (B18) 30 #[.iface 50 (.pointer (some ⟨nd14, 0, none⟩)), .int .i32 kl], row (nd14) 214 #[.slice (some ⟨nd15, 0, none⟩) nd16 nd17, .int .i32 0, .bool false, .bool false, .bool false], row (nd8) 206 nd11, (nd9, .map #[⟨.string ⟨#[95, 95, 115, 117, 112, 101, 114, 87, 114, 97, 112, 112, 101, 114]⟩, .agg #[.int .i32 0, .int .u32 0, .int .u32 2], 0⟩, ⟨.string ⟨#[95, 95, 115, 117, 112, 101, 114, 71, 101, 116]⟩, .agg #[.int .i32 0, .int .u32 0, .int .u32 3], 1⟩, ⟨.string ⟨#[95, 95, 112, 114, 105, 118, 97, 116, 101, 87, 114, 97, 112, 112, 101, 114]⟩, .agg #[.int .i32 0, .int .u32 0, .int .u32 4], 2⟩] 3), row (nd10) 68 #[.int .u32 0, .int .u32 1], row (nd2) 206 nd5, (nd3, .map #[⟨.string ⟨#[95, 95, 115, 117, 112, 101, 114, 87, 114, 97, 112, 112, 101, 114]⟩, .agg #[.int .i32 0, .int .u32 0, .int .u32 2], 0⟩, ⟨.string ⟨#[95, 95, 115, 117, 112, 101, 114, 71, 101, 116]⟩, .agg #[.int .i32 0, .int .u32 0, .int .u32 3], 1⟩, ⟨.string ⟨#[95, 95, 112, 114, 105, 118, 97, 116, 101, 87, 114, 97, 112, 112, 101, 114]⟩, .agg #[.int .i32 0, .int .u32 0, .int .u32 4], 2⟩] 3), row (nd4) 68 #[.int .u32 0, .int .u32 1]] X := by
    rw [← hW]
    exact (hO).alloc' _ (u20.heap.size) (by simp)
  clear hW hO
  generalize u20.heap.size = B25 at hN ⊢
  have hO := hN
  clear hN
  have hL := hO.apart
  have hX := hO.apartX
  have HL := Lib.hid hL
  have HX := Lib.hid hX
  clear hL hX
  have hP9 := hO.pick [7, 8, 9] (by decide)
  have T9 := dsupWrapns nd2 nd5 nd3 nd4 loc 50 nd14 kl _ _ _ hP9 pr6
  refine Calls.mono T9 ?_
  clear hP9 T9
  rintro e u27 ⟨nd28, nd29, nd30, nd31, nd32, nd33, rfl, hQ⟩
  have hN : Own w0 u27 [row (nd2) 206 nd5, (nd3, .map #[⟨.string ⟨#[95, 95, 115, 117, 112, 101, 114, 87, 114, 97, 112, 112, 101, 114]⟩, .agg #[.int .i32 0, .int .u32 0, .int .u32 2], 0⟩, ⟨.string ⟨#[95, 95, 115, 117, 112, 101, 114, 71, 101, 116]⟩, .agg #[.int .i32 0, .int .u32 0, .int .u32 3], 1⟩, ⟨.string ⟨#[95, 95, 112, 114, 105, 118, 97, 116, 101, 87, 114, 97, 112, 112, 101, 114]⟩, .agg #[.int .i32 0, .int .u32 0, .int .u32 4], 2⟩] 3), row (nd4) 68 #[.int .u32 0, .int .u32 1], row (nd29) 223 #[.int .u32 0, .int .u32 2, .bool false, .bool false, .bool false], row (nd28) 56 #[.iface 220 (.pointer (some ⟨nd29, 0, none⟩)), .int .i32 loc, .slice (some ⟨nd30, 0, none⟩) 3 3, .int .i32 0, .int .u8 0, .int .u8 0, .bool false, .bool false], row (nd30) 30 #[.iface 220 (.pointer (some ⟨nd31, 0, none⟩)), .int .i32 loc, .iface 247 (.pointer (some ⟨nd32, 0, none⟩)), .int .i32 loc, .iface 50 (.pointer (some ⟨nd14, 0, none⟩)), .int .i32 kl], row (nd31) 223 #[.int .u32 0, .int .u32 1, .bool false, .bool false, .bool false], row (nd32) 248 #[], row (nd33) 44 #[.iface 52 (.pointer (some ⟨nd28, 0, none⟩)), .int .i32 loc, .string ⟨#[95]⟩, .int .i32 loc, .int .u8 0, .bool false, .bool false, .bool false], row (B25) 30 #[.iface 50 (.pointer (some ⟨nd21, 0, none⟩)), .int .i32 kl], row (nd21) 214 #[.slice (some ⟨nd22, 0, none⟩) nd23 nd24, .int .i32 0, .bool false, .bool false, .bool false], row (B18) 30 #[.iface 50 (.pointer (some ⟨nd14, 0, none⟩)), .int .i32 kl], row (nd14) 214 #[.slice (some ⟨nd15, 0, none⟩) nd16 nd17, .int .i32 0, .bool false, .bool false, .bool false], row (nd8) 206 nd11, (nd9, .map #[⟨.string ⟨#[95, 95, 115, 117, 112, 101, 114, 87, 114, 97, 112, 112, 101, 114]⟩, .agg #[.int .i32 0, .int .u32 0, .int .u32 2], 0⟩, ⟨.string ⟨#[95, 95, 115, 117, 112, 101, 114, 71, 101, 116]⟩, .agg #[.int .i32 0, .int .u32 0, .int .u32 3], 1⟩, ⟨.string ⟨#[95, 95, 112, 114, 105, 118, 97, 116, 101, 87, 114, 97, 112, 112, 101, 114]⟩, .agg #[.int .i32 0, .int .u32 0, .int .u32 4], 2⟩] 3), row (nd10) 68 #[.int .u32 0, .int .u32 1]] X := hQ.back HL.out HX.out [0, 1, 2, 3, 4, 5, 6] (by decide) (by decide)
  clear hQ HL HX hO
  have hO := hN
  clear hN
  have ne9_0_13 : ¬ nd2 = nd8 := hO.ne 0 13 rfl rfl (by decide)
  have ne9_2_15 : ¬ nd4 = nd10 := hO.ne 2 15 rfl rfl (by decide)
  have ne9_3_6 : ¬ nd29 = nd31 := hO.ne 3 6 rfl rfl (by decide)
  have ne9_5_9 : ¬ nd30 = B25 := hO.ne 5 9 rfl rfl (by decide)
  have ne9_5_11 : ¬ nd30 = B18 := hO.ne 5 11 rfl rfl (by decide)
  have ne9_6_3 : ¬ nd31 = nd29 := hO.ne 6 3 rfl rfl (by decide)
  have ne9_9_5 : ¬ B25 = nd30 := hO.ne 9 5 rfl rfl (by decide)
  have ne9_9_11 : ¬ B25 = B18 := hO.ne 9 11 rfl rfl (by decide)
  have ne9_10_12 : ¬ nd21 = nd14 := hO.ne 10 12 rfl rfl (by decide)
  have ne9_11_5 : ¬ B18 = nd30 := hO.ne 11 5 rfl rfl (by decide)
  have ne9_11_9 : ¬ B18 = B25 := hO.ne 11 9 rfl rfl (by decide)
  have ne9_12_10 : ¬ nd14 = nd21 := hO.ne 12 10 rfl rfl (by decide)
  have ne9_13_0 : ¬ nd8 = nd2 := hO.ne 13 0 rfl rfl (by decide)
  have ne9_15_2 : ¬ nd10 = nd4 := hO.ne 15 2 rfl rfl (by decide)
  have pl9_0 : Base.plainAt u27 (nd2) = true := hO.plain 0 rfl
  obtain ⟨c9_2_0, c9_2_1, lt9_2, y9_2, pl9_2⟩ := hO.k2 2 rfl
  obtain ⟨c9_3_0, c9_3_1, c9_3_2, c9_3_3, c9_3_4, lt9_3, y9_3, pl9_3⟩ := hO.k5 3 rfl
  obtain ⟨c9_4_0, c9_4_1, c9_4_2, c9_4_3, c9_4_4, c9_4_5, c9_4_6, c9_4_7, lt9_4, y9_4, -⟩ := hO.k8 4 rfl
  obtain ⟨c9_5_0, c9_5_1, c9_5_2, c9_5_3, c9_5_4, c9_5_5, lt9_5, y9_5, pl9_5⟩ := hO.k6 5 rfl
  obtain ⟨c9_6_0, c9_6_1, c9_6_2, c9_6_3, c9_6_4, lt9_6, y9_6, pl9_6⟩ := hO.k5 6 rfl
  obtain ⟨lt9_7, y9_7, -⟩ := hO.k0 7 rfl
  obtain ⟨c9_8_0, c9_8_1, c9_8_2, c9_8_3, c9_8_4, c9_8_5, c9_8_6, c9_8_7, lt9_8, y9_8, -⟩ := hO.k8 8 rfl
  obtain ⟨c9_9_0, c9_9_1, lt9_9, y9_9, pl9_9⟩ := hO.k2 9 rfl
  obtain ⟨c9_10_0, c9_10_1, c9_10_2, c9_10_3, c9_10_4, lt9_10, y9_10, pl9_10⟩ := hO.k5 10 rfl
  obtain ⟨c9_11_0, c9_11_1, lt9_11, y9_11, pl9_11⟩ := hO.k2 11 rfl
  obtain ⟨c9_12_0, c9_12_1, c9_12_2, c9_12_3, c9_12_4, lt9_12, y9_12, pl9_12⟩ := hO.k5 12 rfl
  have pl9_13 : Base.plainAt u27 (nd8) = true := hO.plain 13 rfl
  obtain ⟨c9_15_0, c9_15_1, lt9_15, y9_15, pl9_15⟩ := hO.k2 15 rfl
  have HO := Lib.hid hO
  clear hO
  go_wp2_with (first | (go_at_call 39; go_in) | (go_at_call 40; go_in) | (go_at_call 18; go_in) | (go_at_call 23; go_in) | (go_at_call 21; go_in) | (go_at_call 41; go_in) | (go_at_call 42; go_in) | (go_at_call 28; go_in) | (go_at_call 43; go_in) | (go_at_call 15; go_in))
  have hO := HO.out
  clear HO ne9_0_13 ne9_2_15 ne9_3_6 ne9_5_9 ne9_5_11 ne9_6_3 ne9_9_5 ne9_9_11 ne9_10_12 ne9_11_5 ne9_11_9 ne9_12_10 ne9_13_0 ne9_15_2 pl9_0 c9_2_0 c9_2_1 lt9_2 y9_2 pl9_2 c9_3_0 c9_3_1 c9_3_2 c9_3_3 c9_3_4 lt9_3 y9_3 pl9_3 c9_4_0 c9_4_1 c9_4_2 c9_4_3 c9_4_4 c9_4_5 c9_4_6 c9_4_7 lt9_4 y9_4 c9_5_0 c9_5_1 c9_5_2 c9_5_3 c9_5_4 c9_5_5 lt9_5 y9_5 pl9_5 c9_6_0 c9_6_1 c9_6_2 c9_6_3 c9_6_4 lt9_6 y9_6 pl9_6 lt9_7 y9_7 c9_8_0 c9_8_1 c9_8_2 c9_8_3 c9_8_4 c9_8_5 c9_8_6 c9_8_7 lt9_8 y9_8 c9_9_0 c9_9_1 lt9_9 y9_9 pl9_9 c9_10_0 c9_10_1 c9_10_2 c9_10_3 c9_10_4 lt9_10 y9_10 pl9_10 c9_11_0 c9_11_1 lt9_11 y9_11 pl9_11 c9_12_0 c9_12_1 c9_12_2 c9_12_3 c9_12_4 lt9_12 y9_12 pl9_12 pl9_13 c9_15_0 c9_15_1 lt9_15 y9_15 pl9_15
  generalize hW : World.alloc _ _ = W35
  have hN : Own w0 W35 [row (u27.heap.size) 30 #[.iface 40 (.pointer (some ⟨nd33, 0, none⟩)), .int .i32 loc], row (nd2) 206 nd5, (nd3, .map #[⟨.string ⟨#[95, 95, 115, 117, 112, 101, 114, 87, 114, 97, 112, 112, 101, 114]⟩, .agg #[.int .i32 0, .int .u32 0, .int .u32 2], 0⟩, ⟨.string ⟨#[95, 95, 115, 117, 112, 101, 114, 71, 101, 116]⟩, .agg #[.int .i32 0, .int .u32 0, .int .u32 3], 1⟩, ⟨.string ⟨#[95, 95, 112, 114, 105, 118, 97, 116, 101, 87, 114, 97, 112, 112, 101, 114]⟩, .agg #[.int .i32 0, .int .u32 0, .int .u32 4], 2⟩] 3), row (nd4) 68 #[.int .u32 0, .int .u32 1], row (nd29) 223 #[.int .u32 0, .int .u32 2, .bool false, .bool false, .bool false], row (nd28) 56 #[.iface 220 (.pointer (some ⟨nd29, 0, none⟩)), .int .i32 loc, .slice (some ⟨nd30, 0, none⟩) 3 3, .int .i32 0, .int .u8 0, .int .u8 0, .bool false, .bool false], row (nd30) 30 #[.iface 220 (.pointer (some ⟨nd31, 0, none⟩)), .int .i32 loc, .iface 247 (.pointer (some ⟨nd32, 0, none⟩)), .int .i32 loc, .iface 50 (.pointer (some ⟨nd14, 0, none⟩)), .int .i32 kl], row (nd31) 223 #[.int .u32 0, .int .u32 1, .bool false, .bool false, .bool false], row (nd32) 248 #[], row (nd33) 44 #[.iface 52 (.pointer (some ⟨nd28, 0, none⟩)), .int .i32 loc, .string ⟨#[95]⟩, .int .i32 loc, .int .u8 0, .bool false, .bool false, .bool false], row (B25) 30 #[.iface 50 (.pointer (some ⟨nd21, 0, none⟩)), .int .i32 kl], row (nd21) 214 #[.slice (some ⟨nd22, 0, none⟩) nd23 nd24, .int .i32 0, .bool false, .bool false, .bool false], row (B18) 30 #[.iface 50 (.pointer (some ⟨nd14, 0, none⟩)), .int .i32 kl], row (nd14) 214 #[.slice (some ⟨nd15, 0, none⟩) nd16 nd17, .int .i32 0, .bool false, .bool false, .bool false], row (nd8) 206 nd11, (nd9, .map #[⟨.string ⟨#[95, 95, 115, 117, 112, 101, 114, 87, 114, 97, 112, 112, 101, 114]⟩, .agg #[.int .i32 0, .int .u32 0, .int .u32 2], 0⟩, ⟨.string ⟨#[95, 95, 115, 117, 112, 101, 114, 71, 101, 116]⟩, .agg #[.int .i32 0, .int .u32 0, .int .u32 3], 1⟩, ⟨.string ⟨#[95, 95, 112, 114, 105, 118, 97, 116, 101, 87, 114, 97, 112, 112, 101, 114]⟩, .agg #[.int .i32 0, .int .u32 0, .int .u32 4], 2⟩] 3), row (nd10) 68 #[.int .u32 0, .int .u32 1]] X := by
    rw [← hW]
    exact (hO).alloc' _ (u27.heap.size) (by simp)
  clear hW hO
  generalize u27.heap.size = B34 at hN ⊢
  have hO := hN
  clear hN
  have hL := hO.apart
  have hX := hO.apartX
  have HL := Lib.hid hL
  have HX := Lib.hid hX
  clear hL hX
  have hP9 := hO.pick [14, 15, 16] (by decide)
  have T9 := dsupGetns nd8 nd11 nd9 nd10 loc 50 nd21 kl _ _ _ hP9 pr12
  refine Calls.mono T9 ?_
  clear hP9 T9
  rintro e u36 ⟨nd37, nd38, nd39, nd40, nd41, rfl, hQ⟩
  have hN : Own w0 u36 [row (nd8) 206 nd11, (nd9, .map #[⟨.string ⟨#[95, 95, 115, 117, 112, 101, 114, 87, 114, 97, 112, 112, 101, 114]⟩, .agg #[.int .i32 0, .int .u32 0, .int .u32 2], 0⟩, ⟨.string ⟨#[95, 95, 115, 117, 112, 101, 114, 71, 101, 116]⟩, .agg #[.int .i32 0, .int .u32 0, .int .u32 3], 1⟩, ⟨.string ⟨#[95, 95, 112, 114, 105, 118, 97, 116, 101, 87, 114, 97, 112, 112, 101, 114]⟩, .agg #[.int .i32 0, .int .u32 0, .int .u32 4], 2⟩] 3), row (nd10) 68 #[.int .u32 0, .int .u32 1], row (nd38) 223 #[.int .u32 0, .int .u32 3, .bool false, .bool false, .bool false], row (nd37) 56 #[.iface 220 (.pointer (some ⟨nd38, 0, none⟩)), .int .i32 loc, .slice (some ⟨nd39, 0, none⟩) 3 3, .int .i32 0, .int .u8 0, .int .u8 0, .bool false, .bool false], row (nd39) 30 #[.iface 220 (.pointer (some ⟨nd40, 0, none⟩)), .int .i32 loc, .iface 247 (.pointer (some ⟨nd41, 0, none⟩)), .int .i32 loc, .iface 50 (.pointer (some ⟨nd21, 0, none⟩)), .int .i32 kl], row (nd40) 223 #[.int .u32 0, .int .u32 1, .bool false, .bool false, .bool false], row (nd41) 248 #[], row (B34) 30 #[.iface 40 (.pointer (some ⟨nd33, 0, none⟩)), .int .i32 loc], row (nd2) 206 nd5, (nd3, .map #[⟨.string ⟨#[95, 95, 115, 117, 112, 101, 114, 87, 114, 97, 112, 112, 101, 114]⟩, .agg #[.int .i32 0, .int .u32 0, .int .u32 2], 0⟩, ⟨.string ⟨#[95, 95, 115, 117, 112, 101, 114, 71, 101, 116]⟩, .agg #[.int .i32 0, .int .u32 0, .int .u32 3], 1⟩, ⟨.string ⟨#[95, 95, 112, 114, 105, 118, 97, 116, 101, 87, 114, 97, 112, 112, 101, 114]⟩, .agg #[.int .i32 0, .int .u32 0, .int .u32 4], 2⟩] 3), row (nd4) 68 #[.int .u32 0, .int .u32 1], row (nd29) 223 #[.int .u32 0, .int .u32 2, .bool false, .bool false, .bool false], row (nd28) 56 #[.iface 220 (.pointer (some ⟨nd29, 0, none⟩)), .int .i32 loc, .slice (some ⟨nd30, 0, none⟩) 3 3, .int .i32 0, .int .u8 0, .int .u8 0, .bool false, .bool false], row (nd30) 30 #[.iface 220 (.pointer (some ⟨nd31, 0, none⟩)), .int .i32 loc, .iface 247 (.pointer (some ⟨nd32, 0, none⟩)), .int .i32 loc, .iface 50 (.pointer (some ⟨nd14, 0, none⟩)), .int .i32 kl], row (nd31) 223 #[.int .u32 0, .int .u32 1, .bool false, .bool false, .bool false], row (nd32) 248 #[], row (nd33) 44 #[.iface 52 (.pointer (some ⟨nd28, 0, none⟩)), .int .i32 loc, .string ⟨#[95]⟩, .int .i32 loc, .int .u8 0, .bool false, .bool false, .bool false], row (B25) 30 #[.iface 50 (.pointer (some ⟨nd21, 0, none⟩)), .int .i32 kl], row (nd21) 214 #[.slice (some ⟨nd22, 0, none⟩) nd23 nd24, .int .i32 0, .bool false, .bool false, .bool false], row (B18) 30 #[.iface 50 (.pointer (some ⟨nd14, 0, none⟩)), .int .i32 kl], row (nd14) 214 #[.slice (some ⟨nd15, 0, none⟩) nd16 nd17, .int .i32 0, .bool false, .bool false, .bool false]] X := hQ.back HL.out HX.out [0, 1, 2, 3, 4, 5, 6, 7, 8, 9, 10, 11, 12, 13] (by decide) (by decide)
  clear hQ HL HX hO
  have hO := hN
  clear hN
  have hN : Own w0 u36 [row (nd38) 223 #[.int .u32 0, .int .u32 3, .bool false, .bool false, .bool false], row (nd37) 56 #[.iface 220 (.pointer (some ⟨nd38, 0, none⟩)), .int .i32 loc, .slice (some ⟨nd39, 0, none⟩) 3 3, .int .i32 0, .int .u8 0, .int .u8 0, .bool false, .bool false], row (nd39) 30 #[.iface 220 (.pointer (some ⟨nd40, 0, none⟩)), .int .i32 loc, .iface 247 (.pointer (some ⟨nd41, 0, none⟩)), .int .i32 loc, .iface 50 (.pointer (some ⟨nd21, 0, none⟩)), .int .i32 kl], row (nd40) 223 #[.int .u32 0, .int .u32 1, .bool false, .bool false, .bool false], row (nd41) 248 #[], row (B34) 30 #[.iface 40 (.pointer (some ⟨nd33, 0, none⟩)), .int .i32 loc], row (nd29) 223 #[.int .u32 0, .int .u32 2, .bool false, .bool false, .bool false], row (nd28) 56 #[.iface 220 (.pointer (some ⟨nd29, 0, none⟩)), .int .i32 loc, .slice (some ⟨nd30, 0, none⟩) 3 3, .int .i32 0, .int .u8 0, .int .u8 0, .bool false, .bool false], row (nd30) 30 #[.iface 220 (.pointer (some ⟨nd31, 0, none⟩)), .int .i32 loc, .iface 247 (.pointer (some ⟨nd32, 0, none⟩)), .int .i32 loc, .iface 50 (.pointer (some ⟨nd14, 0, none⟩)), .int .i32 kl], row (nd31) 223 #[.int .u32 0, .int .u32 1, .bool false, .bool false, .bool false], row (nd32) 248 #[], row (nd33) 44 #[.iface 52 (.pointer (some ⟨nd28, 0, none⟩)), .int .i32 loc, .string ⟨#[95]⟩, .int .i32 loc, .int .u8 0, .bool false, .bool false, .bool false], row (B25) 30 #[.iface 50 (.pointer (some ⟨nd21, 0, none⟩)), .int .i32 kl], row (nd21) 214 #[.slice (some ⟨nd22, 0, none⟩) nd23 nd24, .int .i32 0, .bool false, .bool false, .bool false], row (B18) 30 #[.iface 50 (.pointer (some ⟨nd14, 0, none⟩)), .int .i32 kl], row (nd14) 214 #[.slice (some ⟨nd15, 0, none⟩) nd16 nd17, .int .i32 0, .bool false, .bool false, .bool false]] X := hO.sub [3, 4, 5, 6, 7, 8, 12, 13, 14, 15, 16, 17, 18, 19, 20, 21] (by decide)
  clear hO
  have hO := hN
  clear hN
  have ne9_0_3 : ¬ nd38 = nd40 := hO.ne 0 3 rfl rfl (by decide)
  have ne9_0_6 : ¬ nd38 = nd29 := hO.ne 0 6 rfl rfl (by decide)
  have ne9_0_9 : ¬ nd38 = nd31 := hO.ne 0 9 rfl rfl (by decide)
  have ne9_1_7 : ¬ nd37 = nd28 := hO.ne 1 7 rfl rfl (by decide)
  have ne9_2_5 : ¬ nd39 = B34 := hO.ne 2 5 rfl rfl (by decide)
  have ne9_2_8 : ¬ nd39 = nd30 := hO.ne 2 8 rfl rfl (by decide)
  have ne9_2_12 : ¬ nd39 = B25 := hO.ne 2 12 rfl rfl (by decide)
  have ne9_2_14 : ¬ nd39 = B18 := hO.ne 2 14 rfl rfl (by decide)
  have ne9_3_0 : ¬ nd40 = nd38 := hO.ne 3 0 rfl rfl (by decide)
  have ne9_3_6 : ¬ nd40 = nd29 := hO.ne 3 6 rfl rfl (by decide)
  have ne9_3_9 : ¬ nd40 = nd31 := hO.ne 3 9 rfl rfl (by decide)
  have ne9_4_10 : ¬ nd41 = nd32 := hO.ne 4 10 rfl rfl (by decide)
  have ne9_5_2 : ¬ B34 = nd39 := hO.ne 5 2 rfl rfl (by decide)
  have ne9_5_8 : ¬ B34 = nd30 := hO.ne 5 8 rfl rfl (by decide)
  have ne9_5_12 : ¬ B34 = B25 := hO.ne 5 12 rfl rfl (by decide)
  have ne9_5_14 : ¬ B34 = B18 := hO.ne 5 14 rfl rfl (by decide)
  have ne9_6_0 : ¬ nd29 = nd38 := hO.ne 6 0 rfl rfl (by decide)
  have ne9_6_3 : ¬ nd29 = nd40 := hO.ne 6 3 rfl rfl (by decide)
  have ne9_6_9 : ¬ nd29 = nd31 := hO.ne 6 9 rfl rfl (by decide)
  have ne9_7_1 : ¬ nd28 = nd37 := hO.ne 7 1 rfl rfl (by decide)
  have ne9_8_2 : ¬ nd30 = nd39 := hO.ne 8 2 rfl rfl (by decide)
  have ne9_8_5 : ¬ nd30 = B34 := hO.ne 8 5 rfl rfl (by decide)
  have ne9_8_12 : ¬ nd30 = B25 := hO.ne 8 12 rfl rfl (by decide)
  have ne9_8_14 : ¬ nd30 = B18 := hO.ne 8 14 rfl rfl (by decide)
  have ne9_9_0 : ¬ nd31 = nd38 := hO.ne 9 0 rfl rfl (by decide)
  have ne9_9_3 : ¬ nd31 = nd40 := hO.ne 9 3 rfl rfl (by decide)
  have ne9_9_6 : ¬ nd31 = nd29 := hO.ne 9 6 rfl rfl (by decide)
  have ne9_10_4 : ¬ nd32 = nd41 := hO.ne 10 4 rfl rfl (by decide)
  have ne9_12_2 : ¬ B25 = nd39 := hO.ne 12 2 rfl rfl (by decide)
  have ne9_12_5 : ¬ B25 = B34 := hO.ne 12 5 rfl rfl (by decide)
  have ne9_12_8 : ¬ B25 = nd30 := hO.ne 12 8 rfl rfl (by decide)
  have ne9_12_14 : ¬ B25 = B18 := hO.ne 12 14 rfl rfl (by decide)
  have ne9_13_15 : ¬ nd21 = nd14 := hO.ne 13 15 rfl rfl (by decide)
  have ne9_14_2 : ¬ B18 = nd39 := hO.ne 14 2 rfl rfl (by decide)
  have ne9_14_5 : ¬ B18 = B34 := hO.ne 14 5 rfl rfl (by decide)
  have ne9_14_8 : ¬ B18 = nd30 := hO.ne 14 8 rfl rfl (by decide)
  have ne9_14_12 : ¬ B18 = B25 := hO.ne 14 12 rfl rfl (by decide)
  have ne9_15_13 : ¬ nd14 = nd21 := hO.ne 15 13 rfl rfl (by decide)
  obtain ⟨c9_0_0, c9_0_1, c9_0_2, c9_0_3, c9_0_4, lt9_0, y9_0, pl9_0⟩ := hO.k5 0 rfl
  obtain ⟨c9_1_0, c9_1_1, c9_1_2, c9_1_3, c9_1_4, c9_1_5, c9_1_6, c9_1_7, lt9_1, y9_1, pl9_1⟩ := hO.k8 1 rfl
  obtain ⟨c9_2_0, c9_2_1, c9_2_2, c9_2_3, c9_2_4, c9_2_5, lt9_2, y9_2, pl9_2⟩ := hO.k6 2 rfl
  obtain ⟨c9_3_0, c9_3_1, c9_3_2, c9_3_3, c9_3_4, lt9_3, y9_3, pl9_3⟩ := hO.k5 3 rfl
  obtain ⟨lt9_4, y9_4, pl9_4⟩ := hO.k0 4 rfl
  obtain ⟨c9_5_0, c9_5_1, lt9_5, y9_5, pl9_5⟩ := hO.k2 5 rfl
  obtain ⟨c9_6_0, c9_6_1, c9_6_2, c9_6_3, c9_6_4, lt9_6, y9_6, pl9_6⟩ := hO.k5 6 rfl
  obtain ⟨c9_7_0, c9_7_1, c9_7_2, c9_7_3, c9_7_4, c9_7_5, c9_7_6, c9_7_7, lt9_7, y9_7, pl9_7⟩ := hO.k8 7 rfl
  obtain ⟨c9_8_0, c9_8_1, c9_8_2, c9_8_3, c9_8_4, c9_8_5, lt9_8, y9_8, pl9_8⟩ := hO.k6 8 rfl
  obtain ⟨c9_9_0, c9_9_1, c9_9_2, c9_9_3, c9_9_4, lt9_9, y9_9, pl9_9⟩ := hO.k5 9 rfl
  obtain ⟨lt9_10, y9_10, pl9_10⟩ := hO.k0 10 rfl
  obtain ⟨c9_11_0, c9_11_1, c9_11_2, c9_11_3, c9_11_4, c9_11_5, c9_11_6, c9_11_7, lt9_11, y9_11, -⟩ := hO.k8 11 rfl
  obtain ⟨c9_12_0, c9_12_1, lt9_12, y9_12, pl9_12⟩ := hO.k2 12 rfl
  obtain ⟨c9_13_0, c9_13_1, c9_13_2, c9_13_3, c9_13_4, lt9_13, y9_13, pl9_13⟩ := hO.k5 13 rfl
  obtain ⟨c9_14_0, c9_14_1, lt9_14, y9_14, pl9_14⟩ := hO.k2 14 rfl
  obtain ⟨c9_15_0, c9_15_1, c9_15_2, c9_15_3, c9_15_4, lt9_15, y9_15, pl9_15⟩ := hO.k5 15 rfl
  have HO := Lib.hid hO
  clear hO
  go_wp2_with (first | (go_at_call 39; go_in) | (go_at_call 40; go_in) | (go_at_call 18; go_in) | (go_at_call 23; go_in) | (go_at_call 21; go_in) | (go_at_call 41; go_in) | (go_at_call 42; go_in) | (go_at_call 28; go_in) | (go_at_call 43; go_in) | (go_at_call 15; go_in))
  have hO := HO.out
  clear HO ne9_0_3 ne9_0_6 ne9_0_9 ne9_1_7 ne9_2_5 ne9_2_8 ne9_2_12 ne9_2_14 ne9_3_0 ne9_3_6 ne9_3_9 ne9_4_10 ne9_5_2 ne9_5_8 ne9_5_12 ne9_5_14 ne9_6_0 ne9_6_3 ne9_6_9 ne9_7_1 ne9_8_2 ne9_8_5 ne9_8_12 ne9_8_14 ne9_9_0 ne9_9_3 ne9_9_6 ne9_10_4 ne9_12_2 ne9_12_5 ne9_12_8 ne9_12_14 ne9_13_15 ne9_14_2 ne9_14_5 ne9_14_8 ne9_14_12 ne9_15_13 c9_0_0 c9_0_1 c9_0_2 c9_0_3 c9_0_4 lt9_0 y9_0 pl9_0 c9_1_0 c9_1_1 c9_1_2 c9_1_3 c9_1_4 c9_1_5 c9_1_6 c9_1_7 lt9_1 y9_1 pl9_1 c9_2_0 c9_2_1 c9_2_2 c9_2_3 c9_2_4 c9_2_5 lt9_2 y9_2 pl9_2 c9_3_0 c9_3_1 c9_3_2 c9_3_3 c9_3_4 lt9_3 y9_3 pl9_3 lt9_4 y9_4 pl9_4 c9_5_0 c9_5_1 lt9_5 y9_5 pl9_5 c9_6_0 c9_6_1 c9_6_2 c9_6_3 c9_6_4 lt9_6 y9_6 pl9_6 c9_7_0 c9_7_1 c9_7_2 c9_7_3 c9_7_4 c9_7_5 c9_7_6 c9_7_7 lt9_7 y9_7 pl9_7 c9_8_0 c9_8_1 c9_8_2 c9_8_3 c9_8_4 c9_8_5 lt9_8 y9_8 pl9_8 c9_9_0 c9_9_1 c9_9_2 c9_9_3 c9_9_4 lt9_9 y9_9 pl9_9 lt9_10 y9_10 pl9_10 c9_11_0 c9_11_1 c9_11_2 c9_11_3 c9_11_4 c9_11_5 c9_11_6 c9_11_7 lt9_11 y9_11 c9_12_0 c9_12_1 lt9_12 y9_12 pl9_12 c9_13_0 c9_13_1 c9_13_2 c9_13_3 c9_13_4 lt9_13 y9_13 pl9_13 c9_14_0 c9_14_1 lt9_14 y9_14 pl9_14 c9_15_0 c9_15_1 c9_15_2 c9_15_3 c9_15_4 lt9_15 y9_15 pl9_15
  generalize hW : World.alloc _ _ = W43
  have hN : Own w0 W43 [row (u36.heap.size + 1) 30 #[.iface 40 (.pointer (some ⟨nd33, 0, none⟩)), .int .i32 loc], row (u36.heap.size) 30 #[.iface 52 (.pointer (some ⟨nd37, 0, none⟩)), .int .i32 loc], row (nd38) 223 #[.int .u32 0, .int .u32 3, .bool false, .bool false, .bool false], row (nd37) 56 #[.iface 220 (.pointer (some ⟨nd38, 0, none⟩)), .int .i32 loc, .slice (some ⟨nd39, 0, none⟩) 3 3, .int .i32 0, .int .u8 0, .int .u8 0, .bool false, .bool false], row (nd39) 30 #[.iface 220 (.pointer (some ⟨nd40, 0, none⟩)), .int .i32 loc, .iface 247 (.pointer (some ⟨nd41, 0, none⟩)), .int .i32 loc, .iface 50 (.pointer (some ⟨nd21, 0, none⟩)), .int .i32 kl], row (nd40) 223 #[.int .u32 0, .int .u32 1, .bool false, .bool false, .bool false], row (nd41) 248 #[], row (B34) 30 #[.iface 40 (.pointer (some ⟨nd33, 0, none⟩)), .int .i32 loc], row (nd29) 223 #[.int .u32 0, .int .u32 2, .bool false, .bool false, .bool false], row (nd28) 56 #[.iface 220 (.pointer (some ⟨nd29, 0, none⟩)), .int .i32 loc, .slice (some ⟨nd30, 0, none⟩) 3 3, .int .i32 0, .int .u8 0, .int .u8 0, .bool false, .bool false], row (nd30) 30 #[.iface 220 (.pointer (some ⟨nd31, 0, none⟩)), .int .i32 loc, .iface 247 (.pointer (some ⟨nd32, 0, none⟩)), .int .i32 loc, .iface 50 (.pointer (some ⟨nd14, 0, none⟩)), .int .i32 kl], row (nd31) 223 #[.int .u32 0, .int .u32 1, .bool false, .bool false, .bool false], row (nd32) 248 #[], row (nd33) 44 #[.iface 52 (.pointer (some ⟨nd28, 0, none⟩)), .int .i32 loc, .string ⟨#[95]⟩, .int .i32 loc, .int .u8 0, .bool false, .bool false, .bool false], row (B25) 30 #[.iface 50 (.pointer (some ⟨nd21, 0, none⟩)), .int .i32 kl], row (nd21) 214 #[.slice (some ⟨nd22, 0, none⟩) nd23 nd24, .int .i32 0, .bool false, .bool false, .bool false], row (B18) 30 #[.iface 50 (.pointer (some ⟨nd14, 0, none⟩)), .int .i32 kl], row (nd14) 214 #[.slice (some ⟨nd15, 0, none⟩) nd16 nd17, .int .i32 0, .bool false, .bool false, .bool false]] X := by
    rw [← hW]
    exact ((hO).alloc' _ (u36.heap.size) (by simp)).alloc' _ (u36.heap.size + 1) (by simp)
  clear hW hO
  generalize u36.heap.size + 1 = B42_1 at hN ⊢
  generalize u36.heap.size = B42 at hN ⊢
  have hO := hN
  clear hN
  have hL := hO.apart
  have hX := hO.apartX
  have HL := Lib.hid hL
  have HX := Lib.hid hX
  clear hL hX
  have hP9 := hO.pick [9, 8] (by decide)
  have T9 := callArgsO nd28 nd29 loc 2 nd30 3 3 _ _ _ hP9 
  refine Calls.mono T9 ?_
  clear hP9 T9
  rintro e u44 ⟨rfl, hQ⟩
  have hN : Own w0 u44 [row (nd28) 56 #[.iface 220 (.pointer (some ⟨nd29, 0, none⟩)), .int .i32 loc, .slice (some ⟨nd30, 0, none⟩) 3 3, .int .i32 0, .int .u8 0, .int .u8 0, .bool false, .bool false], row (nd29) 223 #[.int .u32 0, .int .u32 2, .bool false, .bool false, .bool false], row (B42_1) 30 #[.iface 40 (.pointer (some ⟨nd33, 0, none⟩)), .int .i32 loc], row (B42) 30 #[.iface 52 (.pointer (some ⟨nd37, 0, none⟩)), .int .i32 loc], row (nd38) 223 #[.int .u32 0, .int .u32 3, .bool false, .bool false, .bool false], row (nd37) 56 #[.iface 220 (.pointer (some ⟨nd38, 0, none⟩)), .int .i32 loc, .slice (some ⟨nd39, 0, none⟩) 3 3, .int .i32 0, .int .u8 0, .int .u8 0, .bool false, .bool false], row (nd39) 30 #[.iface 220 (.pointer (some ⟨nd40, 0, none⟩)), .int .i32 loc, .iface 247 (.pointer (some ⟨nd41, 0, none⟩)), .int .i32 loc, .iface 50 (.pointer (some ⟨nd21, 0, none⟩)), .int .i32 kl], row (nd40) 223 #[.int .u32 0, .int .u32 1, .bool false, .bool false, .bool false], row (nd41) 248 #[], row (B34) 30 #[.iface 40 (.pointer (some ⟨nd33, 0, none⟩)), .int .i32 loc], row (nd30) 30 #[.iface 220 (.pointer (some ⟨nd31, 0, none⟩)), .int .i32 loc, .iface 247 (.pointer (some ⟨nd32, 0, none⟩)), .int .i32 loc, .iface 50 (.pointer (some ⟨nd14, 0, none⟩)), .int .i32 kl], row (nd31) 223 #[.int .u32 0, .int .u32 1, .bool false, .bool false, .bool false], row (nd32) 248 #[], row (nd33) 44 #[.iface 52 (.pointer (some ⟨nd28, 0, none⟩)), .int .i32 loc, .string ⟨#[95]⟩, .int .i32 loc, .int .u8 0, .bool false, .bool false, .bool false], row (B25) 30 #[.iface 50 (.pointer (some ⟨nd21, 0, none⟩)), .int .i32 kl], row (nd21) 214 #[.slice (some ⟨nd22, 0, none⟩) nd23 nd24, .int .i32 0, .bool false, .bool false, .bool false], row (B18) 30 #[.iface 50 (.pointer (some ⟨nd14, 0, none⟩)), .int .i32 kl], row (nd14) 214 #[.slice (some ⟨nd15, 0, none⟩) nd16 nd17, .int .i32 0, .bool false, .bool false, .bool false]] X := hQ.back HL.out HX.out [0, 1, 2, 3, 4, 5, 6, 7, 10, 11, 12, 13, 14, 15, 16, 17] (by decide) (by decide)
  clear hQ HL HX hO
  have hO := hN
  clear hN
  have ne9_0_5 : ¬ nd28 = nd37 := hO.ne 0 5 rfl rfl (by decide)
  have ne9_1_4 : ¬ nd29 = nd38 := hO.ne 1 4 rfl rfl (by decide)
  have ne9_1_7 : ¬ nd29 = nd40 := hO.ne 1 7 rfl rfl (by decide)
  have ne9_1_11 : ¬ nd29 = nd31 := hO.ne 1 11 rfl rfl (by decide)
  have ne9_2_3 : ¬ B42_1 = B42 := hO.ne 2 3 rfl rfl (by decide)
  have ne9_2_6 : ¬ B42_1 = nd39 := hO.ne 2 6 rfl rfl (by decide)
  have ne9_2_9 : ¬ B42_1 = B34 := hO.ne 2 9 rfl rfl (by decide)
  have ne9_2_10 : ¬ B42_1 = nd30 := hO.ne 2 10 rfl rfl (by decide)
  have ne9_2_14 : ¬ B42_1 = B25 := hO.ne 2 14 rfl rfl (by decide)
  have ne9_2_16 : ¬ B42_1 = B18 := hO.ne 2 16 rfl rfl (by decide)
  have ne9_3_2 : ¬ B42 = B42_1 := hO.ne 3 2 rfl rfl (by decide)
  have ne9_3_6 : ¬ B42 = nd39 := hO.ne 3 6 rfl rfl (by decide)
  have ne9_3_9 : ¬ B42 = B34 := hO.ne 3 9 rfl rfl (by decide)
  have ne9_3_10 : ¬ B42 = nd30 := hO.ne 3 10 rfl rfl (by decide)
  have ne9_3_14 : ¬ B42 = B25 := hO.ne 3 14 rfl rfl (by decide)
  have ne9_3_16 : ¬ B42 = B18 := hO.ne 3 16 rfl rfl (by decide)
  have ne9_4_1 : ¬ nd38 = nd29 := hO.ne 4 1 rfl rfl (by decide)
  have ne9_4_7 : ¬ nd38 = nd40 := hO.ne 4 7 rfl rfl (by decide)
  have ne9_4_11 : ¬ nd38 = nd31 := hO.ne 4 11 rfl rfl (by decide)
  have ne9_5_0 : ¬ nd37 = nd28 := hO.ne 5 0 rfl rfl (by decide)
  have ne9_6_2 : ¬ nd39 = B42_1 := hO.ne 6 2 rfl rfl (by decide)
  have ne9_6_3 : ¬ nd39 = B42 := hO.ne 6 3 rfl rfl (by decide)
  have ne9_6_9 : ¬ nd39 = B34 := hO.ne 6 9 rfl rfl (by decide)
  have ne9_6_10 : ¬ nd39 = nd30 := hO.ne 6 10 rfl rfl (by decide)
  have ne9_6_14 : ¬ nd39 = B25 := hO.ne 6 14 rfl rfl (by decide)
  have ne9_6_16 : ¬ nd39 = B18 := hO.ne 6 16 rfl rfl (by decide)
  have ne9_7_1 : ¬ nd40 = nd29 := hO.ne 7 1 rfl rfl (by decide)
  have ne9_7_4 : ¬ nd40 = nd38 := hO.ne 7 4 rfl rfl (by decide)
  have ne9_7_11 : ¬ nd40 = nd31 := hO.ne 7 11 rfl rfl (by decide)
  have ne9_8_12 : ¬ nd41 = nd32 := hO.ne 8 12 rfl rfl (by decide)
  have ne9_9_2 : ¬ B34 = B42_1 := hO.ne 9 2 rfl rfl (by decide)
  have ne9_9_3 : ¬ B34 = B42 := hO.ne 9 3 rfl rfl (by decide)
  have ne9_9_6 : ¬ B34 = nd39 := hO.ne 9 6 rfl rfl (by decide)
  have ne9_9_10 : ¬ B34 = nd30 := hO.ne 9 10 rfl rfl (by decide)
  have ne9_9_14 : ¬ B34 = B25 := hO.ne 9 14 rfl rfl (by decide)
  have ne9_9_16 : ¬ B34 = B18 := hO.ne 9 16 rfl rfl (by decide)
  have ne9_10_2 : ¬ nd30 = B42_1 := hO.ne 10 2 rfl rfl (by decide)
  have ne9_10_3 : ¬ nd30 = B42 := hO.ne 10 3 rfl rfl (by decide)
  have ne9_10_6 : ¬ nd30 = nd39 := hO.ne 10 6 rfl rfl (by decide)
  have ne9_10_9 : ¬ nd30 = B34 := hO.ne 10 9 rfl rfl (by decide)
  have ne9_10_14 : ¬ nd30 = B25 := hO.ne 10 14 rfl rfl (by decide)
  have ne9_10_16 : ¬ nd30 = B18 := hO.ne 10 16 rfl rfl (by decide)
  have ne9_11_1 : ¬ nd31 = nd29 := hO.ne 11 1 rfl rfl (by decide)
  have ne9_11_4 : ¬ nd31 = nd38 := hO.ne 11 4 rfl rfl (by decide)
  have ne9_11_7 : ¬ nd31 = nd40 := hO.ne 11 7 rfl rfl (by decide)
  have ne9_12_8 : ¬ nd32 = nd41 := hO.ne 12 8 rfl rfl (by decide)
  have ne9_14_2 : ¬ B25 = B42_1 := hO.ne 14 2 rfl rfl (by decide)
  have ne9_14_3 : ¬ B25 = B42 := hO.ne 14 3 rfl rfl (by decide)
  have ne9_14_6 : ¬ B25 = nd39 := hO.ne 14 6 rfl rfl (by decide)
  have ne9_14_9 : ¬ B25 = B34 := hO.ne 14 9 rfl rfl (by decide)
  have ne9_14_10 : ¬ B25 = nd30 := hO.ne 14 10 rfl rfl (by decide)
  have ne9_14_16 : ¬ B25 = B18 := hO.ne 14 16 rfl rfl (by decide)
  have ne9_15_17 : ¬ nd21 = nd14 := hO.ne 15 17 rfl rfl (by decide)
  have ne9_16_2 : ¬ B18 = B42_1 := hO.ne 16 2 rfl rfl (by decide)
  have ne9_16_3 : ¬ B18 = B42 := hO.ne 16 3 rfl rfl (by decide)
  have ne9_16_6 : ¬ B18 = nd39 := hO.ne 16 6 rfl rfl (by decide)
  have ne9_16_9 : ¬ B18 = B34 := hO.ne 16 9 rfl rfl (by decide)
  have ne9_16_10 : ¬ B18 = nd30 := hO.ne 16 10 rfl rfl (by decide)
  have ne9_16_14 : ¬ B18 = B25 := hO.ne 16 14 rfl rfl (by decide)
  have ne9_17_15 : ¬ nd14 = nd21 := hO.ne 17 15 rfl rfl (by decide)
  obtain ⟨c9_0_0, c9_0_1, c9_0_2, c9_0_3, c9_0_4, c9_0_5, c9_0_6, c9_0_7, lt9_0, y9_0, pl9_0⟩ := hO.k8 0 rfl
  obtain ⟨c9_1_0, c9_1_1, c9_1_2, c9_1_3, c9_1_4, lt9_1, y9_1, pl9_1⟩ := hO.k5 1 rfl
  obtain ⟨c9_2_0, c9_2_1, lt9_2, y9_2, pl9_2⟩ := hO.k2 2 rfl
  obtain ⟨c9_3_0, c9_3_1, lt9_3, y9_3, pl9_3⟩ := hO.k2 3 rfl
  obtain ⟨c9_4_0, c9_4_1, c9_4_2, c9_4_3, c9_4_4, lt9_4, y9_4, pl9_4⟩ := hO.k5 4 rfl
  obtain ⟨c9_5_0, c9_5_1, c9_5_2, c9_5_3, c9_5_4, c9_5_5, c9_5_6, c9_5_7, lt9_5, y9_5, pl9_5⟩ := hO.k8 5 rfl
  obtain ⟨c9_6_0, c9_6_1, c9_6_2, c9_6_3, c9_6_4, c9_6_5, lt9_6, y9_6, pl9_6⟩ := hO.k6 6 rfl
  obtain ⟨c9_7_0, c9_7_1, c9_7_2, c9_7_3, c9_7_4, lt9_7, y9_7, pl9_7⟩ := hO.k5 7 rfl
  obtain ⟨lt9_8, y9_8, pl9_8⟩ := hO.k0 8 rfl
  obtain ⟨c9_9_0, c9_9_1, lt9_9, y9_9, pl9_9⟩ := hO.k2 9 rfl
  obtain ⟨c9_10_0, c9_10_1, c9_10_2, c9_10_3, c9_10_4, c9_10_5, lt9_10, y9_10, pl9_10⟩ := hO.k6 10 rfl
  obtain ⟨c9_11_0, c9_11_1, c9_11_2, c9_11_3, c9_11_4, lt9_11, y9_11, pl9_11⟩ := hO.k5 11 rfl
  obtain ⟨lt9_12, y9_12, pl9_12⟩ := hO.k0 12 rfl
  obtain ⟨c9_13_0, c9_13_1, c9_13_2, c9_13_3, c9_13_4, c9_13_5, c9_13_6, c9_13_7, lt9_13, y9_13, -⟩ := hO.k8 13 rfl
  obtain ⟨c9_14_0, c9_14_1, lt9_14, y9_14, pl9_14⟩ := hO.k2 14 rfl
  obtain ⟨c9_15_0, c9_15_1, c9_15_2, c9_15_3, c9_15_4, lt9_15, y9_15, pl9_15⟩ := hO.k5 15 rfl
  obtain ⟨c9_16_0, c9_16_1, lt9_16, y9_16, pl9_16⟩ := hO.k2 16 rfl
  obtain ⟨c9_17_0, c9_17_1, c9_17_2, c9_17_3, c9_17_4, lt9_17, y9_17, pl9_17⟩ := hO.k5 17 rfl
  have HO := Lib.hid hO
  clear hO
  go_wp2_with (first | (go_at_call 39; go_in) | (go_at_call 40; go_in) | (go_at_call 18; go_in) | (go_at_call 23; go_in) | (go_at_call 21; go_in) | (go_at_call 41; go_in) | (go_at_call 42; go_in) | (go_at_call 28; go_in) | (go_at_call 43; go_in) | (go_at_call 15; go_in))
  have hO := HO.out
  clear HO ne9_0_5 ne9_1_4 ne9_1_7 ne9_1_11 ne9_2_3 ne9_2_6 ne9_2_9 ne9_2_10 ne9_2_14 ne9_2_16 ne9_3_2 ne9_3_6 ne9_3_9 ne9_3_10 ne9_3_14 ne9_3_16 ne9_4_1 ne9_4_7 ne9_4_11 ne9_5_0 ne9_6_2 ne9_6_3 ne9_6_9 ne9_6_10 ne9_6_14 ne9_6_16 ne9_7_1 ne9_7_4 ne9_7_11 ne9_8_12 ne9_9_2 ne9_9_3 ne9_9_6 ne9_9_10 ne9_9_14 ne9_9_16 ne9_10_2 ne9_10_3 ne9_10_6 ne9_10_9 ne9_10_14 ne9_10_16 ne9_11_1 ne9_11_4 ne9_11_7 ne9_12_8 ne9_14_2 ne9_14_3 ne9_14_6 ne9_14_9 ne9_14_10 ne9_14_16 ne9_15_17 ne9_16_2 ne9_16_3 ne9_16_6 ne9_16_9 ne9_16_10 ne9_16_14 ne9_17_15 c9_0_0 c9_0_1 c9_0_2 c9_0_3 c9_0_4 c9_0_5 c9_0_6 c9_0_7 lt9_0 y9_0 pl9_0 c9_1_0 c9_1_1 c9_1_2 c9_1_3 c9_1_4 lt9_1 y9_1 pl9_1 c9_2_0 c9_2_1 lt9_2 y9_2 pl9_2 c9_3_0 c9_3_1 lt9_3 y9_3 pl9_3 c9_4_0 c9_4_1 c9_4_2 c9_4_3 c9_4_4 lt9_4 y9_4 pl9_4 c9_5_0 c9_5_1 c9_5_2 c9_5_3 c9_5_4 c9_5_5 c9_5_6 c9_5_7 lt9_5 y9_5 pl9_5 c9_6_0 c9_6_1 c9_6_2 c9_6_3 c9_6_4 c9_6_5 lt9_6 y9_6 pl9_6 c9_7_0 c9_7_1 c9_7_2 c9_7_3 c9_7_4 lt9_7 y9_7 pl9_7 lt9_8 y9_8 pl9_8 c9_9_0 c9_9_1 lt9_9 y9_9 pl9_9 c9_10_0 c9_10_1 c9_10_2 c9_10_3 c9_10_4 c9_10_5 lt9_10 y9_10 pl9_10 c9_11_0 c9_11_1 c9_11_2 c9_11_3 c9_11_4 lt9_11 y9_11 pl9_11 lt9_12 y9_12 pl9_12 c9_13_0 c9_13_1 c9_13_2 c9_13_3 c9_13_4 c9_13_5 c9_13_6 c9_13_7 lt9_13 y9_13 c9_14_0 c9_14_1 lt9_14 y9_14 pl9_14 c9_15_0 c9_15_1 c9_15_2 c9_15_3 c9_15_4 lt9_15 y9_15 pl9_15 c9_16_0 c9_16_1 lt9_16 y9_16 pl9_16 c9_17_0 c9_17_1 c9_17_2 c9_17_3 c9_17_4 lt9_17 y9_17 pl9_17
  have hL := hO.apart
  have hX := hO.apartX
  have HL := Lib.hid hL
  have HX := Lib.hid hX
  clear hL hX
  have hP9 := hO.pick [5, 4] (by decide)
  have T9 := callArgsO nd37 nd38 loc 3 nd39 3 3 _ _ _ hP9 
  refine Calls.mono T9 ?_
  clear hP9 T9
  rintro e u45 ⟨rfl, hQ⟩
  have hN : Own w0 u45 [row (nd37) 56 #[.iface 220 (.pointer (some ⟨nd38, 0, none⟩)), .int .i32 loc, .slice (some ⟨nd39, 0, none⟩) 3 3, .int .i32 0, .int .u8 0, .int .u8 0, .bool false, .bool false], row (nd38) 223 #[.int .u32 0, .int .u32 3, .bool false, .bool false, .bool false], row (nd28) 56 #[.iface 220 (.pointer (some ⟨nd29, 0, none⟩)), .int .i32 loc, .slice (some ⟨nd30, 0, none⟩) 3 3, .int .i32 0, .int .u8 0, .int .u8 0, .bool false, .bool false], row (nd29) 223 #[.int .u32 0, .int .u32 2, .bool false, .bool false, .bool false], row (B42_1) 30 #[.iface 40 (.pointer (some ⟨nd33, 0, none⟩)), .int .i32 loc], row (B42) 30 #[.iface 52 (.pointer (some ⟨nd37, 0, none⟩)), .int .i32 loc], row (nd39) 30 #[.iface 220 (.pointer (some ⟨nd40, 0, none⟩)), .int .i32 loc, .iface 247 (.pointer (some ⟨nd41, 0, none⟩)), .int .i32 loc, .iface 50 (.pointer (some ⟨nd21, 0, none⟩)), .int .i32 kl], row (nd40) 223 #[.int .u32 0, .int .u32 1, .bool false, .bool false, .bool false], row (nd41) 248 #[], row (B34) 30 #[.iface 40 (.pointer (some ⟨nd33, 0, none⟩)), .int .i32 loc], row (nd30) 30 #[.iface 220 (.pointer (some ⟨nd31, 0, none⟩)), .int .i32 loc, .iface 247 (.pointer (some ⟨nd32, 0, none⟩)), .int .i32 loc, .iface 50 (.pointer (some ⟨nd14, 0, none⟩)), .int .i32 kl], row (nd31) 223 #[.int .u32 0, .int .u32 1, .bool false, .bool false, .bool false], row (nd32) 248 #[], row (nd33) 44 #[.iface 52 (.pointer (some ⟨nd28, 0, none⟩)), .int .i32 loc, .string ⟨#[95]⟩, .int .i32 loc, .int .u8 0, .bool false, .bool false, .bool false], row (B25) 30 #[.iface 50 (.pointer (some ⟨nd21, 0, none⟩)), .int .i32 kl], row (nd21) 214 #[.slice (some ⟨nd22, 0, none⟩) nd23 nd24, .int .i32 0, .bool false, .bool false, .bool false], row (B18) 30 #[.iface 50 (.pointer (some ⟨nd14, 0, none⟩)), .int .i32 kl], row (nd14) 214 #[.slice (some ⟨nd15, 0, none⟩) nd16 nd17, .int .i32 0, .bool false, .bool false, .bool false]] X := hQ.back HL.out HX.out [0, 1, 2, 3, 6, 7, 8, 9, 10, 11, 12, 13, 14, 15, 16, 17] (by decide) (by decide)
  clear hQ HL HX hO
  have hO := hN
  clear hN
  have ne9_0_2 : ¬ nd37 = nd28 := hO.ne 0 2 rfl rfl (by decide)
  have ne9_1_3 : ¬ nd38 = nd29 := hO.ne 1 3 rfl rfl (by decide)
  have ne9_1_7 : ¬ nd38 = nd40 := hO.ne 1 7 rfl rfl (by decide)
  have ne9_1_11 : ¬ nd38 = nd31 := hO.ne 1 11 rfl rfl (by decide)
  have ne9_2_0 : ¬ nd28 = nd37 := hO.ne 2 0 rfl rfl (by decide)
  have ne9_3_1 : ¬ nd29 = nd38 := hO.ne 3 1 rfl rfl (by decide)
  have ne9_3_7 : ¬ nd29 = nd40 := hO.ne 3 7 rfl rfl (by decide)
  have ne9_3_11 : ¬ nd29 = nd31 := hO.ne 3 11 rfl rfl (by decide)
  have ne9_4_5 : ¬ B42_1 = B42 := hO.ne 4 5 rfl rfl (by decide)
  have ne9_4_6 : ¬ B42_1 = nd39 := hO.ne 4 6 rfl rfl (by decide)
  have ne9_4_9 : ¬ B42_1 = B34 := hO.ne 4 9 rfl rfl (by decide)
  have ne9_4_10 : ¬ B42_1 = nd30 := hO.ne 4 10 rfl rfl (by decide)
  have ne9_4_14 : ¬ B42_1 = B25 := hO.ne 4 14 rfl rfl (by decide)
  have ne9_4_16 : ¬ B42_1 = B18 := hO.ne 4 16 rfl rfl (by decide)
  have ne9_5_4 : ¬ B42 = B42_1 := hO.ne 5 4 rfl rfl (by decide)
  have ne9_5_6 : ¬ B42 = nd39 := hO.ne 5 6 rfl rfl (by decide)
  have ne9_5_9 : ¬ B42 = B34 := hO.ne 5 9 rfl rfl (by decide)
  have ne9_5_10 : ¬ B42 = nd30 := hO.ne 5 10 rfl rfl (by decide)
  have ne9_5_14 : ¬ B42 = B25 := hO.ne 5 14 rfl rfl (by decide)
  have ne9_5_16 : ¬ B42 = B18 := hO.ne 5 16 rfl rfl (by decide)
  have ne9_6_4 : ¬ nd39 = B42_1 := hO.ne 6 4 rfl rfl (by decide)
  have ne9_6_5 : ¬ nd39 = B42 := hO.ne 6 5 rfl rfl (by decide)
  have ne9_6_9 : ¬ nd39 = B34 := hO.ne 6 9 rfl rfl (by decide)
  have ne9_6_10 : ¬ nd39 = nd30 := hO.ne 6 10 rfl rfl (by decide)
  have ne9_6_14 : ¬ nd39 = B25 := hO.ne 6 14 rfl rfl (by decide)
  have ne9_6_16 : ¬ nd39 = B18 := hO.ne 6 16 rfl rfl (by decide)
  have ne9_7_1 : ¬ nd40 = nd38 := hO.ne 7 1 rfl rfl (by decide)
  have ne9_7_3 : ¬ nd40 = nd29 := hO.ne 7 3 rfl rfl (by decide)
  have ne9_7_11 : ¬ nd40 = nd31 := hO.ne 7 11 rfl rfl (by decide)
  have ne9_8_12 : ¬ nd41 = nd32 := hO.ne 8 12 rfl rfl (by decide)
  have ne9_9_4 : ¬ B34 = B42_1 := hO.ne 9 4 rfl rfl (by decide)
  have ne9_9_5 : ¬ B34 = B42 := hO.ne 9 5 rfl rfl (by decide)
  have ne9_9_6 : ¬ B34 = nd39 := hO.ne 9 6 rfl rfl (by decide)
  have ne9_9_10 : ¬ B34 = nd30 := hO.ne 9 10 rfl rfl (by decide)
  have ne9_9_14 : ¬ B34 = B25 := hO.ne 9 14 rfl rfl (by decide)
  have ne9_9_16 : ¬ B34 = B18 := hO.ne 9 16 rfl rfl (by decide)
  have ne9_10_4 : ¬ nd30 = B42_1 := hO.ne 10 4 rfl rfl (by decide)
  have ne9_10_5 : ¬ nd30 = B42 := hO.ne 10 5 rfl rfl (by decide)
  have ne9_10_6 : ¬ nd30 = nd39 := hO.ne 10 6 rfl rfl (by decide)
  have ne9_10_9 : ¬ nd30 = B34 := hO.ne 10 9 rfl rfl (by decide)
  have ne9_10_14 : ¬ nd30 = B25 := hO.ne 10 14 rfl rfl (by decide)
  have ne9_10_16 : ¬ nd30 = B18 := hO.ne 10 16 rfl rfl (by decide)
  have ne9_11_1 : ¬ nd31 = nd38 := hO.ne 11 1 rfl rfl (by decide)
  have ne9_11_3 : ¬ nd31 = nd29 := hO.ne 11 3 rfl rfl (by decide)
  have ne9_11_7 : ¬ nd31 = nd40 := hO.ne 11 7 rfl rfl (by decide)
  have ne9_12_8 : ¬ nd32 = nd41 := hO.ne 12 8 rfl rfl (by decide)
  have ne9_14_4 : ¬ B25 = B42_1 := hO.ne 14 4 rfl rfl (by decide)
  have ne9_14_5 : ¬ B25 = B42 := hO.ne 14 5 rfl rfl (by decide)
  have ne9_14_6 : ¬ B25 = nd39 := hO.ne 14 6 rfl rfl (by decide)
  have ne9_14_9 : ¬ B25 = B34 := hO.ne 14 9 rfl rfl (by decide)
  have ne9_14_10 : ¬ B25 = nd30 := hO.ne 14 10 rfl rfl (by decide)
  have ne9_14_16 : ¬ B25 = B18 := hO.ne 14 16 rfl rfl (by decide)
  have ne9_15_17 : ¬ nd21 = nd14 := hO.ne 15 17 rfl rfl (by decide)
  have ne9_16_4 : ¬ B18 = B42_1 := hO.ne 16 4 rfl rfl (by decide)
  have ne9_16_5 : ¬ B18 = B42 := hO.ne 16 5 rfl rfl (by decide)
  have ne9_16_6 : ¬ B18 = nd39 := hO.ne 16 6 rfl rfl (by decide)
  have ne9_16_9 : ¬ B18 = B34 := hO.ne 16 9 rfl rfl (by decide)
  have ne9_16_10 : ¬ B18 = nd30 := hO.ne 16 10 rfl rfl (by decide)
  have ne9_16_14 : ¬ B18 = B25 := hO.ne 16 14 rfl rfl (by decide)
  have ne9_17_15 : ¬ nd14 = nd21 := hO.ne 17 15 rfl rfl (by decide)
  obtain ⟨c9_0_0, c9_0_1, c9_0_2, c9_0_3, c9_0_4, c9_0_5, c9_0_6, c9_0_7, lt9_0, y9_0, pl9_0⟩ := hO.k8 0 rfl
  obtain ⟨c9_1_0, c9_1_1, c9_1_2, c9_1_3, c9_1_4, lt9_1, y9_1, pl9_1⟩ := hO.k5 1 rfl
  obtain ⟨c9_2_0, c9_2_1, c9_2_2, c9_2_3, c9_2_4, c9_2_5, c9_2_6, c9_2_7, lt9_2, y9_2, pl9_2⟩ := hO.k8 2 rfl
  obtain ⟨c9_3_0, c9_3_1, c9_3_2, c9_3_3, c9_3_4, lt9_3, y9_3, pl9_3⟩ := hO.k5 3 rfl
  obtain ⟨c9_4_0, c9_4_1, lt9_4, y9_4, pl9_4⟩ := hO.k2 4 rfl
  obtain ⟨c9_5_0, c9_5_1, lt9_5, y9_5, pl9_5⟩ := hO.k2 5 rfl
  obtain ⟨c9_6_0, c9_6_1, c9_6_2, c9_6_3, c9_6_4, c9_6_5, lt9_6, y9_6, pl9_6⟩ := hO.k6 6 rfl
  obtain ⟨c9_7_0, c9_7_1, c9_7_2, c9_7_3, c9_7_4, lt9_7, y9_7, pl9_7⟩ := hO.k5 7 rfl
  obtain ⟨lt9_8, y9_8, pl9_8⟩ := hO.k0 8 rfl
  obtain ⟨c9_9_0, c9_9_1, lt9_9, y9_9, pl9_9⟩ := hO.k2 9 rfl
  obtain ⟨c9_10_0, c9_10_1, c9_10_2, c9_10_3, c9_10_4, c9_10_5, lt9_10, y9_10, pl9_10⟩ := hO.k6 10 rfl
  obtain ⟨c9_11_0, c9_11_1, c9_11_2, c9_11_3, c9_11_4, lt9_11, y9_11, pl9_11⟩ := hO.k5 11 rfl
  obtain ⟨lt9_12, y9_12, pl9_12⟩ := hO.k0 12 rfl
  obtain ⟨c9_13_0, c9_13_1, c9_13_2, c9_13_3, c9_13_4, c9_13_5, c9_13_6, c9_13_7, lt9_13, y9_13, -⟩ := hO.k8 13 rfl
  obtain ⟨c9_14_0, c9_14_1, lt9_14, y9_14, pl9_14⟩ := hO.k2 14 rfl
  obtain ⟨c9_15_0, c9_15_1, c9_15_2, c9_15_3, c9_15_4, lt9_15, y9_15, pl9_15⟩ := hO.k5 15 rfl
  obtain ⟨c9_16_0, c9_16_1, lt9_16, y9_16, pl9_16⟩ := hO.k2 16 rfl
  obtain ⟨c9_17_0, c9_17_1, c9_17_2, c9_17_3, c9_17_4, lt9_17, y9_17, pl9_17⟩ := hO.k5 17 rfl
  have HO := Lib.hid hO
  clear hO
  go_wp2_with (first | (go_at_call 39; go_in) | (go_at_call 40; go_in) | (go_at_call 18; go_in) | (go_at_call 23; go_in) | (go_at_call 21; go_in) | (go_at_call 41; go_in) | (go_at_call 42; go_in) | (go_at_call 28; go_in) | (go_at_call 43; go_in) | (go_at_call 15; go_in))
  have hO := HO.out
  clear HO ne9_0_2 ne9_1_3 ne9_1_7 ne9_1_11 ne9_2_0 ne9_3_1 ne9_3_7 ne9_3_11 ne9_4_5 ne9_4_6 ne9_4_9 ne9_4_10 ne9_4_14 ne9_4_16 ne9_5_4 ne9_5_6 ne9_5_9 ne9_5_10 ne9_5_14 ne9_5_16 ne9_6_4 ne9_6_5 ne9_6_9 ne9_6_10 ne9_6_14 ne9_6_16 ne9_7_1 ne9_7_3 ne9_7_11 ne9_8_12 ne9_9_4 ne9_9_5 ne9_9_6 ne9_9_10 ne9_9_14 ne9_9_16 ne9_10_4 ne9_10_5 ne9_10_6 ne9_10_9 ne9_10_14 ne9_10_16 ne9_11_1 ne9_11_3 ne9_11_7 ne9_12_8 ne9_14_4 ne9_14_5 ne9_14_6 ne9_14_9 ne9_14_10 ne9_14_16 ne9_15_17 ne9_16_4 ne9_16_5 ne9_16_6 ne9_16_9 ne9_16_10 ne9_16_14 ne9_17_15 c9_0_0 c9_0_1 c9_0_2 c9_0_3 c9_0_4 c9_0_5 c9_0_6 c9_0_7 lt9_0 y9_0 pl9_0 c9_1_0 c9_1_1 c9_1_2 c9_1_3 c9_1_4 lt9_1 y9_1 pl9_1 c9_2_0 c9_2_1 c9_2_2 c9_2_3 c9_2_4 c9_2_5 c9_2_6 c9_2_7 lt9_2 y9_2 pl9_2 c9_3_0 c9_3_1 c9_3_2 c9_3_3 c9_3_4 lt9_3 y9_3 pl9_3 c9_4_0 c9_4_1 lt9_4 y9_4 pl9_4 c9_5_0 c9_5_1 lt9_5 y9_5 pl9_5 c9_6_0 c9_6_1 c9_6_2 c9_6_3 c9_6_4 c9_6_5 lt9_6 y9_6 pl9_6 c9_7_0 c9_7_1 c9_7_2 c9_7_3 c9_7_4 lt9_7 y9_7 pl9_7 lt9_8 y9_8 pl9_8 c9_9_0 c9_9_1 lt9_9 y9_9 pl9_9 c9_10_0 c9_10_1 c9_10_2 c9_10_3 c9_10_4 c9_10_5 lt9_10 y9_10 pl9_10 c9_11_0 c9_11_1 c9_11_2 c9_11_3 c9_11_4 lt9_11 y9_11 pl9_11 lt9_12 y9_12 pl9_12 c9_13_0 c9_13_1 c9_13_2 c9_13_3 c9_13_4 c9_13_5 c9_13_6 c9_13_7 lt9_13 y9_13 c9_14_0 c9_14_1 lt9_14 y9_14 pl9_14 c9_15_0 c9_15_1 c9_15_2 c9_15_3 c9_15_4 lt9_15 y9_15 pl9_15 c9_16_0 c9_16_1 lt9_16 y9_16 pl9_16 c9_17_0 c9_17_1 c9_17_2 c9_17_3 c9_17_4 lt9_17 y9_17 pl9_17
  have hL := hO.apart
  have hX := hO.apartX
  have HL := Lib.hid hL
  have HX := Lib.hid hX
  clear hL hX
  have hP9 := hO.pick [6, 7, 10, 11] (by decide)
  generalize hX9_46 : Own.Rest _ _ X = X9_46 at hP9
  replace hP9 : Own w0 u45 [row (nd39) 30 #[.iface 220 (.pointer (some ⟨nd40, 0, none⟩)), .int .i32 loc, .iface 247 (.pointer (some ⟨nd41, 0, none⟩)), .int .i32 loc, .iface 50 (.pointer (some ⟨nd21, 0, none⟩)), .int .i32 kl], row (nd40) 223 #[.int .u32 0, .int .u32 1, .bool false, .bool false, .bool false], row (nd30) 30 #[.iface 220 (.pointer (some ⟨nd31, 0, none⟩)), .int .i32 loc, .iface 247 (.pointer (some ⟨nd32, 0, none⟩)), .int .i32 loc, .iface 50 (.pointer (some ⟨nd14, 0, none⟩)), .int .i32 kl], row (nd31) 223 #[.int .u32 0, .int .u32 1, .bool false, .bool false, .bool false]] X9_46 := hP9
  clear hO
  have hO := hP9
  clear hP9
  have st9 := rMns9_st loc kl nd14 nd21 nd30 nd31 nd32 nd39 nd40 nd41
  refine wp_region_own (e := rMns9E loc kl nd14 nd21 nd30 nd31 nd32 nd39 nd40 nd41) (anc := rMns9Anc) (G := (fun L9 α u9 => OwnF w0 u9 (act rMns9Cnt 4 L9) (rMns9R loc kl nd14 nd21 nd30 nd31 nd32 nd39 nd40 nd41 L9 α) X9_46)) (by kernel_rfl) (by kernel_rfl) (by kernel_rfl) (by kernel_rfl) (rMns9_he loc kl nd14 nd21 nd30 nd31 nd32 nd39 nd40 nd41) ?_ (RunsAll.all ?_) ?_
  · have hp : ∀ i, act rMns9Cnt 4 (fun _ => false) i → i ∈ [999, 1999, 2999, 3999] := by
      intro i hi
      have h9 : i % 1000 = 999 := by
        by_cases h : i % 1000 = 999
        · exact h
        · exact absurd (act_lt hi h) (by simp)
      unfold act at hi
      rw [if_pos h9] at hi
      simp only [List.mem_cons, List.not_mem_nil, or_false]
      omega
    refine hO.drew.family (fun i hi => ?_) (fun i j hi hj hij => ?_)
    · have := hp i hi
      simp only [List.mem_cons, List.not_mem_nil, or_false] at this
      rcases this with rfl | rfl | rfl | rfl <;> rfl
    · have h1 := hp i hi
      have h2 := hp j hj
      simp only [List.mem_cons, List.not_mem_nil, or_false] at h1 h2
      omega
  · refine ⟨?_, ?_, ?_, ?_, ?_, ?_, ?_, ?_, ?_, ?_, ?_, ?_, ?_, ?_, ?_, ?_, ?_, ?_, trivial⟩
    · intro L9 α a9 u9 K9 hL hcl hA hG hS h0 hK
      replace hL : L9 0 = false := hL
      have q18 : a9.tmps[18]? = some (.slice (some ⟨nd30, 0, none⟩) 3 3) := (h0 18 (by kernel_rfl)).trans rfl
      have s18 := Rega.eval_of q18
      go_simp
      exact hK _ α _ (fun _ _ => rfl) rfl (step_same (st9) hL hcl rfl rfl hG)
    · intro L9 α a9 u9 K9 hL hcl hA hG hS h0 hK
      replace hL : L9 1 = false := hL
      have q101 : a9.tmps[101]? = some (.slice (some ⟨nd30, 0, none⟩) 3 3) := hS 0 101 (by decide) rfl (by show 101 < 135; decide)
      have s101 := Rega.eval_of q101
      go_simp
      exact hK _ α _ (fun _ _ => rfl) rfl (step_same (st9) hL hcl rfl rfl hG)
    · intro L9 α a9 u9 K9 hL hcl hA hG hS h0 hK
      replace hL : L9 2 = false := hL
      have q102 : a9.tmps[102]? = some (.pointer (some ⟨nd30, 0, none⟩)) := hS 1 102 (by decide) rfl (by show 102 < 135; decide)
      have s102 := Rega.eval_of q102
      have e0 : rMns9R loc kl nd14 nd21 nd30 nd31 nd32 nd39 nd40 nd41 L9 α 2999 = row (nd30) 30 #[.iface 220 (.pointer (some ⟨nd31, 0, none⟩)), .int .i32 loc, .iface 247 (.pointer (some ⟨nd32, 0, none⟩)), .int .i32 loc, .iface 50 (.pointer (some ⟨nd14, 0, none⟩)), .int .i32 kl] := rfl
      have hr := hG.rowAt 2999 (act_base 2999 rfl) e0
      have c0 : u9.cell? ⟨nd30, 0, none⟩ = some (.iface 220 (.pointer (some ⟨nd31, 0, none⟩))) := hr.cell rfl
      have c1 : u9.cell? ⟨nd30, 1, none⟩ = some (.int .i32 loc) := hr.cell rfl
      clear hr e0
      go_simp
      exact hK _ α _ (fun _ _ => rfl) rfl (step_same (st9) hL hcl rfl rfl hG)
    · intro L9 α a9 u9 K9 hL hcl hA hG hS h0 hK
      replace hL : L9 3 = false := hL
      have q20 : a9.tmps[20]? = some (.slice (some ⟨nd39, 0, none⟩) 3 3) := (h0 20 (by kernel_rfl)).trans rfl
      have s20 := Rega.eval_of q20
      go_simp
      exact hK _ α _ (fun _ _ => rfl) rfl (step_same (st9) hL hcl rfl rfl hG)
    · intro L9 α a9 u9 K9 hL hcl hA hG hS h0 hK
      replace hL : L9 4 = false := hL
      have q104 : a9.tmps[104]? = some (.slice (some ⟨nd39, 0, none⟩) 3 3) := hS 3 104 (by decide) rfl (by show 104 < 135; decide)
      have s104 := Rega.eval_of q104
      go_simp
      exact hK _ α _ (fun _ _ => rfl) rfl (step_same (st9) hL hcl rfl rfl hG)
    · intro L9 α a9 u9 K9 hL hcl hA hG hS h0 hK
      replace hL : L9 5 = false := hL
      have q105 : a9.tmps[105]? = some (.pointer (some ⟨nd39, 0, none⟩)) := hS 4 105 (by decide) rfl (by show 105 < 135; decide)
      have s105 := Rega.eval_of q105
      have e0 : rMns9R loc kl nd14 nd21 nd30 nd31 nd32 nd39 nd40 nd41 L9 α 999 = row (nd39) 30 #[.iface 220 (.pointer (some ⟨nd40, 0, none⟩)), .int .i32 loc, .iface 247 (.pointer (some ⟨nd41, 0, none⟩)), .int .i32 loc, .iface 50 (.pointer (some ⟨nd21, 0, none⟩)), .int .i32 kl] := rfl
      have hr := hG.rowAt 999 (act_base 999 rfl) e0
      have c0 : u9.cell? ⟨nd39, 0, none⟩ = some (.iface 220 (.pointer (some ⟨nd40, 0, none⟩))) := hr.cell rfl
      have c1 : u9.cell? ⟨nd39, 1, none⟩ = some (.int .i32 loc) := hr.cell rfl
      clear hr e0
      go_simp
      exact hK _ α _ (fun _ _ => rfl) rfl (step_same (st9) hL hcl rfl rfl hG)
    · intro L9 α a9 u9 K9 hL hcl hA hG hS h0 hK
      replace hL : L9 6 = false := hL
      have q103 : a9.tmps[103]? = some (.agg #[.iface 220 (.pointer (some ⟨nd31, 0, none⟩)), .int .i32 loc]) := hS 2 103 (by decide) rfl (by show 103 < 135; decide)
      have s103 := Rega.eval_of q103
      have q106 : a9.tmps[106]? = some (.agg #[.iface 220 (.pointer (some ⟨nd40, 0, none⟩)), .int .i32 loc]) := hS 5 106 (by decide) rfl (by show 106 < 135; decide)
      have s106 := Rega.eval_of q106
      go_simp
      have e0 : rMns9R loc kl nd14 nd21 nd30 nd31 nd32 nd39 nd40 nd41 L9 α 3999 = row (nd31) 223 #[.int .u32 0, .int .u32 1, .bool false, .bool false, .bool false] := rfl
      have e1 : rMns9R loc kl nd14 nd21 nd30 nd31 nd32 nd39 nd40 nd41 L9 α 1999 = row (nd40) 223 #[.int .u32 0, .int .u32 1, .bool false, .bool false, .bool false] := rfl
      have hM : ∀ i, i ∈ [3999, 1999] → act rMns9Cnt 4 L9 i := by
        intro i hi
        simp only [List.mem_cons, List.not_mem_nil, or_false] at hi
        rcases hi with rfl | rfl
        · exact act_base 3999 rfl
        · exact act_base 1999 rfl
      have hP : Own w0 u9 [row (nd31) 223 #[.int .u32 0, .int .u32 1, .bool false, .bool false, .bool false], row (nd40) 223 #[.int .u32 0, .int .u32 1, .bool false, .bool false, .bool false]] _ := (hG.pick [3999, 1999] (by decide) hM).conv (by
        show [rMns9R loc kl nd14 nd21 nd30 nd31 nd32 nd39 nd40 nd41 L9 α 3999, rMns9R loc kl nd14 nd21 nd30 nd31 nd32 nd39 nd40 nd41 L9 α 1999] = _
        rw [e0, e1])
      clear e0 e1 hM
      refine Calls.mono (shapeI4 nd31 nd40 loc 0 1 _ _ _ hP ) ?_
      rintro e9 u1 ⟨rfl, hQ⟩
      obtain ⟨α', hα'⟩ : ∃ α' : Rega.Atoms, α' = α := ⟨_, rfl⟩
      have f0 : rMns9R loc kl nd14 nd21 nd30 nd31 nd32 nd39 nd40 nd41 (Rega.ran L9 6) α' 3999 = row (nd31) 223 #[.int .u32 0, .int .u32 1, .bool false, .bool false, .bool false] := rfl
      have f1 : rMns9R loc kl nd14 nd21 nd30 nd31 nd32 nd39 nd40 nd41 (Rega.ran L9 6) α' 1999 = row (nd40) 223 #[.int .u32 0, .int .u32 1, .bool false, .bool false, .bool false] := rfl
      have hα : ∀ j, j % 1000 ≠ 6 → α' j = α j := fun j hj => by rw [hα']
      skip
      refine hK _ α' _ hα ?_ (step_call (st9) hL hcl hα [3999, 1999] [3999, 1999] (by decide) (by decide) (by decide) (M := _) ?_ hG hQ)
      · rfl
      · show [rMns9R loc kl nd14 nd21 nd30 nd31 nd32 nd39 nd40 nd41 (Rega.ran L9 6) α' 3999, rMns9R loc kl nd14 nd21 nd30 nd31 nd32 nd39 nd40 nd41 (Rega.ran L9 6) α' 1999] = _
        rw [f0, f1]
    · intro L9 α a9 u9 K9 hL hcl hA hG hS h0 hK
      replace hL : L9 7 = false := hL
      have q107 : a9.tmps[107]? = some (.bool true) := hS 6 107 (by decide) rfl (by show 107 < 135; decide)
      have s107 := Rega.eval_of q107
      go_simp
      exact hK _ α _ (fun _ _ => rfl) rfl (step_same (st9) hL hcl rfl rfl hG)
    · intro L9 α a9 u9 K9 hL hcl hA hG hS h0 hK
      replace hL : L9 8 = false := hL
      have q108 : a9.tmps[108]? = some (.bool false) := hS 7 108 (by decide) rfl (by show 108 < 135; decide)
      have s108 := Rega.eval_of q108
      go_simp
      exact hK _ α _ (fun _ _ => rfl) rfl (step_same (st9) hL hcl rfl rfl hG)
    · intro L9 α a9 u9 K9 hL hcl hA hG hS h0 hK
      replace hL : L9 9 = false := hL
      have q18 : a9.tmps[18]? = some (.slice (some ⟨nd30, 0, none⟩) 3 3) := (h0 18 (by kernel_rfl)).trans rfl
      have s18 := Rega.eval_of q18
      have q109 : a9.tmps[109]? = some (.bool false) := hS 8 109 (by decide) rfl (by show 109 < 135; decide)
      have s109 := Rega.eval_of q109
      go_simp
      exact hK _ α _ (fun _ _ => rfl) rfl (step_same (st9) hL hcl rfl rfl hG)
    · intro L9 α a9 u9 K9 hL hcl hA hG hS h0 hK
      replace hL : L9 10 = false := hL
      have q110 : a9.tmps[110]? = some (.slice (some ⟨nd30, 0, none⟩) 3 3) := hS 9 110 (by decide) rfl (by show 110 < 135; decide)
      have s110 := Rega.eval_of q110
      have q109 : a9.tmps[109]? = some (.bool false) := hS 8 109 (by decide) rfl (by show 109 < 135; decide)
      have s109 := Rega.eval_of q109
      go_simp
      exact hK _ α _ (fun _ _ => rfl) rfl (step_same (st9) hL hcl rfl rfl hG)
    · intro L9 α a9 u9 K9 hL hcl hA hG hS h0 hK
      replace hL : L9 11 = false := hL
      have q111 : a9.tmps[111]? = some (.pointer (some ⟨nd30, 2, none⟩)) := hS 10 111 (by decide) rfl (by show 111 < 135; decide)
      have s111 := Rega.eval_of q111
      have q109 : a9.tmps[109]? = some (.bool false) := hS 8 109 (by decide) rfl (by show 109 < 135; decide)
      have s109 := Rega.eval_of q109
      have e0 : rMns9R loc kl nd14 nd21 nd30 nd31 nd32 nd39 nd40 nd41 L9 α 2999 = row (nd30) 30 #[.iface 220 (.pointer (some ⟨nd31, 0, none⟩)), .int .i32 loc, .iface 247 (.pointer (some ⟨nd32, 0, none⟩)), .int .i32 loc, .iface 50 (.pointer (some ⟨nd14, 0, none⟩)), .int .i32 kl] := rfl
      have hr := hG.rowAt 2999 (act_base 2999 rfl) e0
      have c0 : u9.cell? ⟨nd30, 2, none⟩ = some (.iface 247 (.pointer (some ⟨nd32, 0, none⟩))) := hr.cell rfl
      have c1 : u9.cell? ⟨nd30, 3, none⟩ = some (.int .i32 loc) := hr.cell rfl
      clear hr e0
      go_simp
      exact hK _ α _ (fun _ _ => rfl) rfl (step_same (st9) hL hcl rfl rfl hG)
    · intro L9 α a9 u9 K9 hL hcl hA hG hS h0 hK
      replace hL : L9 12 = false := hL
      have q20 : a9.tmps[20]? = some (.slice (some ⟨nd39, 0, none⟩) 3 3) := (h0 20 (by kernel_rfl)).trans rfl
      have s20 := Rega.eval_of q20
      have q109 : a9.tmps[109]? = some (.bool false) := hS 8 109 (by decide) rfl (by show 109 < 135; decide)
      have s109 := Rega.eval_of q109
      go_simp
      exact hK _ α _ (fun _ _ => rfl) rfl (step_same (st9) hL hcl rfl rfl hG)
    · intro L9 α a9 u9 K9 hL hcl hA hG hS h0 hK
      replace hL : L9 13 = false := hL
      have q113 : a9.tmps[113]? = some (.slice (some ⟨nd39, 0, none⟩) 3 3) := hS 12 113 (by decide) rfl (by show 113 < 135; decide)
      have s113 := Rega.eval_of q113
      have q109 : a9.tmps[109]? = some (.bool false) := hS 8 109 (by decide) rfl (by show 109 < 135; decide)
      have s109 := Rega.eval_of q109
      go_simp
      exact hK _ α _ (fun _ _ => rfl) rfl (step_same (st9) hL hcl rfl rfl hG)
    · intro L9 α a9 u9 K9 hL hcl hA hG hS h0 hK
      replace hL : L9 14 = false := hL
      have q114 : a9.tmps[114]? = some (.pointer (some ⟨nd39, 2, none⟩)) := hS 13 114 (by decide) rfl (by show 114 < 135; decide)
      have s114 := Rega.eval_of q114
      have q109 : a9.tmps[109]? = some (.bool false) := hS 8 109 (by decide) rfl (by show 109 < 135; decide)
      have s109 := Rega.eval_of q109
      have e0 : rMns9R loc kl nd14 nd21 nd30 nd31 nd32 nd39 nd40 nd41 L9 α 999 = row (nd39) 30 #[.iface 220 (.pointer (some ⟨nd40, 0, none⟩)), .int .i32 loc, .iface 247 (.pointer (some ⟨nd41, 0, none⟩)), .int .i32 loc, .iface 50 (.pointer (some ⟨nd21, 0, none⟩)), .int .i32 kl] := rfl
      have hr := hG.rowAt 999 (act_base 999 rfl) e0
      have c0 : u9.cell? ⟨nd39, 2, none⟩ = some (.iface 247 (.pointer (some ⟨nd41, 0, none⟩))) := hr.cell rfl
      have c1 : u9.cell? ⟨nd39, 3, none⟩ = some (.int .i32 loc) := hr.cell rfl
      clear hr e0
      go_simp
      exact hK _ α _ (fun _ _ => rfl) rfl (step_same (st9) hL hcl rfl rfl hG)
    · intro L9 α a9 u9 K9 hL hcl hA hG hS h0 hK
      replace hL : L9 15 = false := hL
      have q112 : a9.tmps[112]? = some (.agg #[.iface 247 (.pointer (some ⟨nd32, 0, none⟩)), .int .i32 loc]) := hS 11 112 (by decide) rfl (by show 112 < 135; decide)
      have s112 := Rega.eval_of q112
      have q115 : a9.tmps[115]? = some (.agg #[.iface 247 (.pointer (some ⟨nd41, 0, none⟩)), .int .i32 loc]) := hS 14 115 (by decide) rfl (by show 115 < 135; decide)
      have s115 := Rega.eval_of q115
      have q109 : a9.tmps[109]? = some (.bool false) := hS 8 109 (by decide) rfl (by show 109 < 135; decide)
      have s109 := Rega.eval_of q109
      go_simp
      have hM : ∀ i, i ∈ [] → act rMns9Cnt 4 L9 i := by intro i hi; simp at hi
      have hP : Own w0 u9 [] _ := hG.pick [] (by decide) (by simp)
      clear hM
      refine Calls.mono (shapeT4 nd32 nd41 loc _ _ _ hP ) ?_
      rintro e9 u1 ⟨rfl, hQ⟩
      obtain ⟨α', hα'⟩ : ∃ α' : Rega.Atoms, α' = α := ⟨_, rfl⟩
      have hα : ∀ j, j % 1000 ≠ 15 → α' j = α j := fun j hj => by rw [hα']
      skip
      refine hK _ α' _ hα ?_ (step_call (st9) hL hcl hα [] [] (by decide) (by decide) (by decide) (M := _) ?_ hG hQ)
      · rfl
      · show [] = _
        rw []
    · intro L9 α a9 u9 K9 hL hcl hA hG hS h0 hK
      replace hL : L9 16 = false := hL
      have q116 : a9.tmps[116]? = some (.bool true) := hS 15 116 (by decide) rfl (by show 116 < 135; decide)
      have s116 := Rega.eval_of q116
      have q109 : a9.tmps[109]? = some (.bool false) := hS 8 109 (by decide) rfl (by show 109 < 135; decide)
      have s109 := Rega.eval_of q109
      go_simp
      exact hK _ α _ (fun _ _ => rfl) rfl (step_same (st9) hL hcl rfl rfl hG)
    · intro L9 α a9 u9 K9 hL hcl hA hG hS h0 hK
      replace hL : L9 17 = false := hL
      have q109 : a9.tmps[109]? = some (.bool false) := hS 8 109 (by decide) rfl (by show 109 < 135; decide)
      have s109 := Rega.eval_of q109
      have q117 : a9.tmps[117]? = some (.bool false) := hS 16 117 (by decide) rfl (by show 117 < 135; decide)
      have s117 := Rega.eval_of q117
      go_simp
      exact hK _ α _ (fun _ _ => rfl) rfl (step_same (st9) hL hcl rfl rfl hG)
  · clear st9
    intro α u hG
    have e0 : rMns9R loc kl nd14 nd21 nd30 nd31 nd32 nd39 nd40 nd41 (fun k => decide (k < 18)) α 999 = row (nd39) 30 #[.iface 220 (.pointer (some ⟨nd40, 0, none⟩)), .int .i32 loc, .iface 247 (.pointer (some ⟨nd41, 0, none⟩)), .int .i32 loc, .iface 50 (.pointer (some ⟨nd21, 0, none⟩)), .int .i32 kl] := rfl
    have e1 : rMns9R loc kl nd14 nd21 nd30 nd31 nd32 nd39 nd40 nd41 (fun k => decide (k < 18)) α 1999 = row (nd40) 223 #[.int .u32 0, .int .u32 1, .bool false, .bool false, .bool false] := rfl
    have e2 : rMns9R loc kl nd14 nd21 nd30 nd31 nd32 nd39 nd40 nd41 (fun k => decide (k < 18)) α 2999 = row (nd30) 30 #[.iface 220 (.pointer (some ⟨nd31, 0, none⟩)), .int .i32 loc, .iface 247 (.pointer (some ⟨nd32, 0, none⟩)), .int .i32 loc, .iface 50 (.pointer (some ⟨nd14, 0, none⟩)), .int .i32 kl] := rfl
    have e3 : rMns9R loc kl nd14 nd21 nd30 nd31 nd32 nd39 nd40 nd41 (fun k => decide (k < 18)) α 3999 = row (nd31) 223 #[.int .u32 0, .int .u32 1, .bool false, .bool false, .bool false] := rfl
    have hO : Own w0 u [row (nd39) 30 #[.iface 220 (.pointer (some ⟨nd40, 0, none⟩)), .int .i32 loc, .iface 247 (.pointer (some ⟨nd41, 0, none⟩)), .int .i32 loc, .iface 50 (.pointer (some ⟨nd21, 0, none⟩)), .int .i32 kl], row (nd40) 223 #[.int .u32 0, .int .u32 1, .bool false, .bool false, .bool false], row (nd30) 30 #[.iface 220 (.pointer (some ⟨nd31, 0, none⟩)), .int .i32 loc, .iface 247 (.pointer (some ⟨nd32, 0, none⟩)), .int .i32 loc, .iface 50 (.pointer (some ⟨nd14, 0, none⟩)), .int .i32 kl], row (nd31) 223 #[.int .u32 0, .int .u32 1, .bool false, .bool false, .bool false]] X9_46 := (hG.list [999, 1999, 2999, 3999] (by decide) (act_all (by decide))).conv (by
      show [rMns9R loc kl nd14 nd21 nd30 nd31 nd32 nd39 nd40 nd41 (fun k => decide (k < 18)) α 999, rMns9R loc kl nd14 nd21 nd30 nd31 nd32 nd39 nd40 nd41 (fun k => decide (k < 18)) α 1999, rMns9R loc kl nd14 nd21 nd30 nd31 nd32 nd39 nd40 nd41 (fun k => decide (k < 18)) α 2999, rMns9R loc kl nd14 nd21 nd30 nd31 nd32 nd39 nd40 nd41 (fun k => decide (k < 18)) α 3999] = _
      rw [e0, e1, e2, e3])
    clear hG e0 e1 e2 e3
    generalize hfr : Rega.frameAt _ _ _ _ _ = fr
    have hdf : fr = ⟨#[.bool false, .bool true, .int .i32 loc, .int .i32 kl, .string nm, undef, undef, undef, undef, undef, .bool false, .pointer (some ⟨nd2, 0, none⟩), .pointer (some ⟨nd8, 0, none⟩), .pointer (some ⟨B18, 0, none⟩), .pointer (some ⟨B25, 0, none⟩), .pointer (some ⟨B34, 0, none⟩), .pointer (some ⟨B42, 0, none⟩), .pointer (some ⟨nd33, 0, none⟩), .slice (some ⟨nd30, 0, none⟩) 3 3, .bool true, .slice (some ⟨nd39, 0, none⟩) 3 3, .bool true, .bool false, .bool true, .int .i32 loc, .int .i32 kl, .string nm, .bool true, .bool false, .string nm, .int .i64 (nm.size : Int), .bool (decide (65536 < (nm.size : Int))), .bool false, .bool true, .pointer (some ⟨nd2, 0, none⟩), .bool false, .bool true, .pointer (some ⟨nd8, 0, none⟩), .int .i32 kl, .string nm, .agg #[.iface 50 (.pointer (some ⟨nd14, 0, none⟩)), .int .i32 kl], .int .i32 kl, .string nm, .agg #[.iface 50 (.pointer (some ⟨nd21, 0, none⟩)), .int .i32 kl], .pointer (some ⟨nd2, 0, none⟩), .int .i32 loc, .agg #[.iface 50 (.pointer (some ⟨nd14, 0, none⟩)), .int .i32 kl], .agg #[.iface 40 (.pointer (some ⟨nd33, 0, none⟩)), .int .i32 loc], .pointer (some ⟨nd8, 0, none⟩), .int .i32 loc, .agg #[.iface 50 (.pointer (some ⟨nd21, 0, none⟩)), .int .i32 kl], .agg #[.iface 52 (.pointer (some ⟨nd37, 0, none⟩)), .int .i32 loc], .agg #[.iface 40 (.pointer (some ⟨nd33, 0, none⟩)), .int .i32 loc], .pointer (some ⟨nd33, 0, none⟩), .pointer (some ⟨nd33, 0, none⟩), .bool false, .bool false, .pointer (some ⟨nd33, 0, none⟩), .pointer (some ⟨nd33, 0, none⟩), .pointer (some ⟨nd33, 2, none⟩), .string ⟨#[95]⟩, .bool false, .bool false, .bool false, .pointer (some ⟨B34, 1, none⟩), .agg #[.int .i32 loc], .pointer (some ⟨B42, 1, none⟩), .agg #[.int .i32 loc], .bool false, .bool false, .tuple #[.slice (some ⟨nd30, 0, none⟩) 3 3, .bool true], .pointer (some ⟨nd33, 0, none⟩), .pointer (some ⟨nd33, 0, none⟩), .pointer (some ⟨nd33, 0, none⟩), .agg #[.iface 52 (.pointer (some ⟨nd28, 0, none⟩)), .int .i32 loc], .int .i32 loc, .tuple #[.slice (some ⟨nd30, 0, none⟩) 3 3, .bool true], .slice (some ⟨nd30, 0, none⟩) 3 3, .bool true, .tuple #[.slice (some ⟨nd39, 0, none⟩) 3 3, .bool true], .agg #[.iface 52 (.pointer (some ⟨nd37, 0, none⟩)), .int .i32 loc], .int .i32 loc, .tuple #[.slice (some ⟨nd39, 0, none⟩) 3 3, .bool true], .slice (some ⟨nd39, 0, none⟩) 3 3, .bool true, .bool true, .bool false, .bool false, .bool true, .bool false, .bool false, .bool false, .slice (some ⟨nd30, 0, none⟩) 3 3, .int .i64 3, .bool false, .bool false, .bool false, .slice (some ⟨nd39, 0, none⟩) 3 3, .int .i64 3, .bool false, .bool false, .slice (some ⟨nd30, 0, none⟩) 3 3, .pointer (some ⟨nd30, 0, none⟩), .agg #[.iface 220 (.pointer (some ⟨nd31, 0, none⟩)), .int .i32 loc], .slice (some ⟨nd39, 0, none⟩) 3 3, .pointer (some ⟨nd39, 0, none⟩), .agg #[.iface 220 (.pointer (some ⟨nd40, 0, none⟩)), .int .i32 loc], .bool true, .bool false, .bool false, .slice (some ⟨nd30, 0, none⟩) 3 3, .pointer (some ⟨nd30, 2, none⟩), .agg #[.iface 247 (.pointer (some ⟨nd32, 0, none⟩)), .int .i32 loc], .slice (some ⟨nd39, 0, none⟩) 3 3, .pointer (some ⟨nd39, 2, none⟩), .agg #[.iface 247 (.pointer (some ⟨nd41, 0, none⟩)), .int .i32 loc], .bool true, .bool false, .bool false, undef, undef, undef, undef, undef, undef, undef, undef, undef, undef, undef, undef, undef, undef, undef, undef], []⟩ := by rw [← hfr]; kernel_rfl
    clear hfr
    subst hdf
    clear α
    subst hX9_46
    have hN : Own w0 u [row (nd39) 30 #[.iface 220 (.pointer (some ⟨nd40, 0, none⟩)), .int .i32 loc, .iface 247 (.pointer (some ⟨nd41, 0, none⟩)), .int .i32 loc, .iface 50 (.pointer (some ⟨nd21, 0, none⟩)), .int .i32 kl], row (nd40) 223 #[.int .u32 0, .int .u32 1, .bool false, .bool false, .bool false], row (nd30) 30 #[.iface 220 (.pointer (some ⟨nd31, 0, none⟩)), .int .i32 loc, .iface 247 (.pointer (some ⟨nd32, 0, none⟩)), .int .i32 loc, .iface 50 (.pointer (some ⟨nd14, 0, none⟩)), .int .i32 kl], row (nd31) 223 #[.int .u32 0, .int .u32 1, .bool false, .bool false, .bool false], row (nd37) 56 #[.iface 220 (.pointer (some ⟨nd38, 0, none⟩)), .int .i32 loc, .slice (some ⟨nd39, 0, none⟩) 3 3, .int .i32 0, .int .u8 0, .int .u8 0, .bool false, .bool false], row (nd38) 223 #[.int .u32 0, .int .u32 3, .bool false, .bool false, .bool false], row (nd28) 56 #[.iface 220 (.pointer (some ⟨nd29, 0, none⟩)), .int .i32 loc, .slice (some ⟨nd30, 0, none⟩) 3 3, .int .i32 0, .int .u8 0, .int .u8 0, .bool false, .bool false], row (nd29) 223 #[.int .u32 0, .int .u32 2, .bool false, .bool false, .bool false], row (B42_1) 30 #[.iface 40 (.pointer (some ⟨nd33, 0, none⟩)), .int .i32 loc], row (B42) 30 #[.iface 52 (.pointer (some ⟨nd37, 0, none⟩)), .int .i32 loc], row (nd41) 248 #[], row (B34) 30 #[.iface 40 (.pointer (some ⟨nd33, 0, none⟩)), .int .i32 loc], row (nd32) 248 #[], row (nd33) 44 #[.iface 52 (.pointer (some ⟨nd28, 0, none⟩)), .int .i32 loc, .string ⟨#[95]⟩, .int .i32 loc, .int .u8 0, .bool false, .bool false, .bool false], row (B25) 30 #[.iface 50 (.pointer (some ⟨nd21, 0, none⟩)), .int .i32 kl], row (nd21) 214 #[.slice (some ⟨nd22, 0, none⟩) nd23 nd24, .int .i32 0, .bool false, .bool false, .bool false], row (B18) 30 #[.iface 50 (.pointer (some ⟨nd14, 0, none⟩)), .int .i32 kl], row (nd14) 214 #[.slice (some ⟨nd15, 0, none⟩) nd16 nd17, .int .i32 0, .bool false, .bool false, .bool false]] X := hO.back HL.out HX.out [0, 1, 2, 3, 4, 5, 8, 9, 12, 13, 14, 15, 16, 17] (by decide) (by decide)
    clear hO HL HX
    have hO := hN
    clear hN
    have hN : Own w0 u [row (nd39) 30 #[.iface 220 (.pointer (some ⟨nd40, 0, none⟩)), .int .i32 loc, .iface 247 (.pointer (some ⟨nd41, 0, none⟩)), .int .i32 loc, .iface 50 (.pointer (some ⟨nd21, 0, none⟩)), .int .i32 kl], row (nd40) 223 #[.int .u32 0, .int .u32 1, .bool false, .bool false, .bool false], row (nd30) 30 #[.iface 220 (.pointer (some ⟨nd31, 0, none⟩)), .int .i32 loc, .iface 247 (.pointer (some ⟨nd32, 0, none⟩)), .int .i32 loc, .iface 50 (.pointer (some ⟨nd14, 0, none⟩)), .int .i32 kl], row (nd31) 223 #[.int .u32 0, .int .u32 1, .bool false, .bool false, .bool false], row (nd37) 56 #[.iface 220 (.pointer (some ⟨nd38, 0, none⟩)), .int .i32 loc, .slice (some ⟨nd39, 0, none⟩) 3 3, .int .i32 0, .int .u8 0, .int .u8 0, .bool false, .bool false], row (nd38) 223 #[.int .u32 0, .int .u32 3, .bool false, .bool false, .bool false], row (nd28) 56 #[.iface 220 (.pointer (some ⟨nd29, 0, none⟩)), .int .i32 loc, .slice (some ⟨nd30, 0, none⟩) 3 3, .int .i32 0, .int .u8 0, .int .u8 0, .bool false, .bool false], row (nd29) 223 #[.int .u32 0, .int .u32 2, .bool false, .bool false, .bool false], row (B42) 30 #[.iface 52 (.pointer (some ⟨nd37, 0, none⟩)), .int .i32 loc], row (nd41) 248 #[], row (B34) 30 #[.iface 40 (.pointer (some ⟨nd33, 0, none⟩)), .int .i32 loc], row (nd32) 248 #[], row (nd33) 44 #[.iface 52 (.pointer (some ⟨nd28, 0, none⟩)), .int .i32 loc, .string ⟨#[95]⟩, .int .i32 loc, .int .u8 0, .bool false, .bool false, .bool false], row (B25) 30 #[.iface 50 (.pointer (some ⟨nd21, 0, none⟩)), .int .i32 kl], row (nd21) 214 #[.slice (some ⟨nd22, 0, none⟩) nd23 nd24, .int .i32 0, .bool false, .bool false, .bool false], row (B18) 30 #[.iface 50 (.pointer (some ⟨nd14, 0, none⟩)), .int .i32 kl], row (nd14) 214 #[.slice (some ⟨nd15, 0, none⟩) nd16 nd17, .int .i32 0, .bool false, .bool false, .bool false]] X := hO.sub [0, 1, 2, 3, 4, 5, 6, 7, 9, 10, 11, 12, 13, 14, 15, 16, 17] (by decide)
    clear hO
    have hO := hN
    clear hN
    have ne9_0_2 : ¬ nd39 = nd30 := hO.ne 0 2 rfl rfl (by decide)
    have ne9_0_8 : ¬ nd39 = B42 := hO.ne 0 8 rfl rfl (by decide)
    have ne9_0_10 : ¬ nd39 = B34 := hO.ne 0 10 rfl rfl (by decide)
    have ne9_0_13 : ¬ nd39 = B25 := hO.ne 0 13 rfl rfl (by decide)
    have ne9_0_15 : ¬ nd39 = B18 := hO.ne 0 15 rfl rfl (by decide)
    have ne9_1_3 : ¬ nd40 = nd31 := hO.ne 1 3 rfl rfl (by decide)
    have ne9_1_5 : ¬ nd40 = nd38 := hO.ne 1 5 rfl rfl (by decide)
    have ne9_1_7 : ¬ nd40 = nd29 := hO.ne 1 7 rfl rfl (by decide)
    have ne9_2_0 : ¬ nd30 = nd39 := hO.ne 2 0 rfl rfl (by decide)
    have ne9_2_8 : ¬ nd30 = B42 := hO.ne 2 8 rfl rfl (by decide)
    have ne9_2_10 : ¬ nd30 = B34 := hO.ne 2 10 rfl rfl (by decide)
    have ne9_2_13 : ¬ nd30 = B25 := hO.ne 2 13 rfl rfl (by decide)
    have ne9_2_15 : ¬ nd30 = B18 := hO.ne 2 15 rfl rfl (by decide)
    have ne9_3_1 : ¬ nd31 = nd40 := hO.ne 3 1 rfl rfl (by decide)
    have ne9_3_5 : ¬ nd31 = nd38 := hO.ne 3 5 rfl rfl (by decide)
    have ne9_3_7 : ¬ nd31 = nd29 := hO.ne 3 7 rfl rfl (by decide)
    have ne9_4_6 : ¬ nd37 = nd28 := hO.ne 4 6 rfl rfl (by decide)
    have ne9_5_1 : ¬ nd38 = nd40 := hO.ne 5 1 rfl rfl (by decide)
    have ne9_5_3 : ¬ nd38 = nd31 := hO.ne 5 3 rfl rfl (by decide)
    have ne9_5_7 : ¬ nd38 = nd29 := hO.ne 5 7 rfl rfl (by decide)
    have ne9_6_4 : ¬ nd28 = nd37 := hO.ne 6 4 rfl rfl (by decide)
    have ne9_7_1 : ¬ nd29 = nd40 := hO.ne 7 1 rfl rfl (by decide)
    have ne9_7_3 : ¬ nd29 = nd31 := hO.ne 7 3 rfl rfl (by decide)
    have ne9_7_5 : ¬ nd29 = nd38 := hO.ne 7 5 rfl rfl (by decide)
    have ne9_8_0 : ¬ B42 = nd39 := hO.ne 8 0 rfl rfl (by decide)
    have ne9_8_2 : ¬ B42 = nd30 := hO.ne 8 2 rfl rfl (by decide)
    have ne9_8_10 : ¬ B42 = B34 := hO.ne 8 10 rfl rfl (by decide)
    have ne9_8_13 : ¬ B42 = B25 := hO.ne 8 13 rfl rfl (by decide)
    have ne9_8_15 : ¬ B42 = B18 := hO.ne 8 15 rfl rfl (by decide)
    have ne9_9_11 : ¬ nd41 = nd32 := hO.ne 9 11 rfl rfl (by decide)
    have ne9_10_0 : ¬ B34 = nd39 := hO.ne 10 0 rfl rfl (by decide)
    have ne9_10_2 : ¬ B34 = nd30 := hO.ne 10 2 rfl rfl (by decide)
    have ne9_10_8 : ¬ B34 = B42 := hO.ne 10 8 rfl rfl (by decide)
    have ne9_10_13 : ¬ B34 = B25 := hO.ne 10 13 rfl rfl (by decide)
    have ne9_10_15 : ¬ B34 = B18 := hO.ne 10 15 rfl rfl (by decide)
    have ne9_11_9 : ¬ nd32 = nd41 := hO.ne 11 9 rfl rfl (by decide)
    have ne9_13_0 : ¬ B25 = nd39 := hO.ne 13 0 rfl rfl (by decide)
    have ne9_13_2 : ¬ B25 = nd30 := hO.ne 13 2 rfl rfl (by decide)
    have ne9_13_8 : ¬ B25 = B42 := hO.ne 13 8 rfl rfl (by decide)
    have ne9_13_10 : ¬ B25 = B34 := hO.ne 13 10 rfl rfl (by decide)
    have ne9_13_15 : ¬ B25 = B18 := hO.ne 13 15 rfl rfl (by decide)
    have ne9_14_16 : ¬ nd21 = nd14 := hO.ne 14 16 rfl rfl (by decide)
    have ne9_15_0 : ¬ B18 = nd39 := hO.ne 15 0 rfl rfl (by decide)
    have ne9_15_2 : ¬ B18 = nd30 := hO.ne 15 2 rfl rfl (by decide)
    have ne9_15_8 : ¬ B18 = B42 := hO.ne 15 8 rfl rfl (by decide)
    have ne9_15_10 : ¬ B18 = B34 := hO.ne 15 10 rfl rfl (by decide)
    have ne9_15_13 : ¬ B18 = B25 := hO.ne 15 13 rfl rfl (by decide)
    have ne9_16_14 : ¬ nd14 = nd21 := hO.ne 16 14 rfl rfl (by decide)
    obtain ⟨c9_0_0, c9_0_1, c9_0_2, c9_0_3, c9_0_4, c9_0_5, lt9_0, y9_0, pl9_0⟩ := hO.k6 0 rfl
    obtain ⟨c9_1_0, c9_1_1, c9_1_2, c9_1_3, c9_1_4, lt9_1, y9_1, pl9_1⟩ := hO.k5 1 rfl
    obtain ⟨c9_2_0, c9_2_1, c9_2_2, c9_2_3, c9_2_4, c9_2_5, lt9_2, y9_2, pl9_2⟩ := hO.k6 2 rfl
    obtain ⟨c9_3_0, c9_3_1, c9_3_2, c9_3_3, c9_3_4, lt9_3, y9_3, pl9_3⟩ := hO.k5 3 rfl
    obtain ⟨c9_4_0, c9_4_1, c9_4_2, c9_4_3, c9_4_4, c9_4_5, c9_4_6, c9_4_7, lt9_4, y9_4, pl9_4⟩ := hO.k8 4 rfl
    obtain ⟨c9_5_0, c9_5_1, c9_5_2, c9_5_3, c9_5_4, lt9_5, y9_5, pl9_5⟩ := hO.k5 5 rfl
    obtain ⟨c9_6_0, c9_6_1, c9_6_2, c9_6_3, c9_6_4, c9_6_5, c9_6_6, c9_6_7, lt9_6, y9_6, pl9_6⟩ := hO.k8 6 rfl
    obtain ⟨c9_7_0, c9_7_1, c9_7_2, c9_7_3, c9_7_4, lt9_7, y9_7, pl9_7⟩ := hO.k5 7 rfl
    obtain ⟨c9_8_0, c9_8_1, lt9_8, y9_8, pl9_8⟩ := hO.k2 8 rfl
    obtain ⟨lt9_9, y9_9, pl9_9⟩ := hO.k0 9 rfl
    obtain ⟨c9_10_0, c9_10_1, lt9_10, y9_10, pl9_10⟩ := hO.k2 10 rfl
    obtain ⟨lt9_11, y9_11, pl9_11⟩ := hO.k0 11 rfl
    obtain ⟨c9_12_0, c9_12_1, c9_12_2, c9_12_3, c9_12_4, c9_12_5, c9_12_6, c9_12_7, lt9_12, y9_12, -⟩ := hO.k8 12 rfl
    obtain ⟨c9_13_0, c9_13_1, lt9_13, y9_13, pl9_13⟩ := hO.k2 13 rfl
    obtain ⟨c9_14_0, c9_14_1, c9_14_2, c9_14_3, c9_14_4, lt9_14, y9_14, pl9_14⟩ := hO.k5 14 rfl
    obtain ⟨c9_15_0, c9_15_1, lt9_15, y9_15, pl9_15⟩ := hO.k2 15 rfl
    obtain ⟨c9_16_0, c9_16_1, c9_16_2, c9_16_3, c9_16_4, lt9_16, y9_16, pl9_16⟩ := hO.k5 16 rfl
    have HO := Lib.hid hO
    clear hO
    go_wp2_with (first | (go_at_call 39; go_in) | (go_at_call 40; go_in) | (go_at_call 18; go_in) | (go_at_call 23; go_in) | (go_at_call 21; go_in) | (go_at_call 41; go_in) | (go_at_call 42; go_in) | (go_at_call 28; go_in) | (go_at_call 43; go_in) | (go_at_call 15; go_in))
    have hO := HO.out
    clear HO ne9_0_2 ne9_0_8 ne9_0_10 ne9_0_13 ne9_0_15 ne9_1_3 ne9_1_5 ne9_1_7 ne9_2_0 ne9_2_8 ne9_2_10 ne9_2_13 ne9_2_15 ne9_3_1 ne9_3_5 ne9_3_7 ne9_4_6 ne9_5_1 ne9_5_3 ne9_5_7 ne9_6_4 ne9_7_1 ne9_7_3 ne9_7_5 ne9_8_0 ne9_8_2 ne9_8_10 ne9_8_13 ne9_8_15 ne9_9_11 ne9_10_0 ne9_10_2 ne9_10_8 ne9_10_13 ne9_10_15 ne9_11_9 ne9_13_0 ne9_13_2 ne9_13_8 ne9_13_10 ne9_13_15 ne9_14_16 ne9_15_0 ne9_15_2 ne9_15_8 ne9_15_10 ne9_15_13 ne9_16_14 c9_0_0 c9_0_1 c9_0_2 c9_0_3 c9_0_4 c9_0_5 lt9_0 y9_0 pl9_0 c9_1_0 c9_1_1 c9_1_2 c9_1_3 c9_1_4 lt9_1 y9_1 pl9_1 c9_2_0 c9_2_1 c9_2_2 c9_2_3 c9_2_4 c9_2_5 lt9_2 y9_2 pl9_2 c9_3_0 c9_3_1 c9_3_2 c9_3_3 c9_3_4 lt9_3 y9_3 pl9_3 c9_4_0 c9_4_1 c9_4_2 c9_4_3 c9_4_4 c9_4_5 c9_4_6 c9_4_7 lt9_4 y9_4 pl9_4 c9_5_0 c9_5_1 c9_5_2 c9_5_3 c9_5_4 lt9_5 y9_5 pl9_5 c9_6_0 c9_6_1 c9_6_2 c9_6_3 c9_6_4 c9_6_5 c9_6_6 c9_6_7 lt9_6 y9_6 pl9_6 c9_7_0 c9_7_1 c9_7_2 c9_7_3 c9_7_4 lt9_7 y9_7 pl9_7 c9_8_0 c9_8_1 lt9_8 y9_8 pl9_8 lt9_9 y9_9 pl9_9 c9_10_0 c9_10_1 lt9_10 y9_10 pl9_10 lt9_11 y9_11 pl9_11 c9_12_0 c9_12_1 c9_12_2 c9_12_3 c9_12_4 c9_12_5 c9_12_6 c9_12_7 lt9_12 y9_12 c9_13_0 c9_13_1 lt9_13 y9_13 pl9_13 c9_14_0 c9_14_1 c9_14_2 c9_14_3 c9_14_4 lt9_14 y9_14 pl9_14 c9_15_0 c9_15_1 lt9_15 y9_15 pl9_15 c9_16_0 c9_16_1 c9_16_2 c9_16_3 c9_16_4 lt9_16 y9_16 pl9_16
    have hL := hO.apart
    have hX := hO.apartX
    have HL := Lib.hid hL
    have HX := Lib.hid hX
    clear hL hX
    have hP9 := hO.pick [0, 2, 13, 15] (by decide)
    generalize hX9_47 : Own.Rest _ _ X = X9_47 at hP9
    replace hP9 : Own w0 u [row (nd39) 30 #[.iface 220 (.pointer (some ⟨nd40, 0, none⟩)), .int .i32 loc, .iface 247 (.pointer (some ⟨nd41, 0, none⟩)), .int .i32 loc, .iface 50 (.pointer (some ⟨nd21, 0, none⟩)), .int .i32 kl], row (nd30) 30 #[.iface 220 (.pointer (some ⟨nd31, 0, none⟩)), .int .i32 loc, .iface 247 (.pointer (some ⟨nd32, 0, none⟩)), .int .i32 loc, .iface 50 (.pointer (some ⟨nd14, 0, none⟩)), .int .i32 kl], row (B25) 30 #[.iface 50 (.pointer (some ⟨nd21, 0, none⟩)), .int .i32 kl], row (B18) 30 #[.iface 50 (.pointer (some ⟨nd14, 0, none⟩)), .int .i32 kl]] X9_47 := hP9
    clear hO
    have hO := hP9
    clear hP9
    have st9 := rMns10_st loc kl nd14 B18 nd21 B25 nd30 nd31 nd32 nd39 nd40 nd41
    refine wp_region_own (e := rMns10E loc kl nd14 B18 nd21 B25 nd30 nd31 nd32 nd39 nd40 nd41) (anc := rMns10Anc) (G := (fun L9 α u9 => OwnF w0 u9 (act rMns10Cnt 4 L9) (rMns10R loc kl nd14 B18 nd21 B25 nd30 nd31 nd32 nd39 nd40 nd41 L9 α) X9_47)) (by kernel_rfl) (by kernel_rfl) (by kernel_rfl) (by kernel_rfl) (rMns10_he loc kl nd14 B18 nd21 B25 nd30 nd31 nd32 nd39 nd40 nd41) ?_ (RunsAll.all ?_) ?_
    · have hp : ∀ i, act rMns10Cnt 4 (fun _ => false) i → i ∈ [999, 1999, 2999, 3999] := by
        intro i hi
        have h9 : i % 1000 = 999 := by
          by_cases h : i % 1000 = 999
          · exact h
          · exact absurd (act_lt hi h) (by simp)
        unfold act at hi
        rw [if_pos h9] at hi
        simp only [List.mem_cons, List.not_mem_nil, or_false]
        omega
      refine hO.drew.family (fun i hi => ?_) (fun i j hi hj hij => ?_)
      · have := hp i hi
        simp only [List.mem_cons, List.not_mem_nil, or_false] at this
        rcases this with rfl | rfl | rfl | rfl <;> rfl
      · have h1 := hp i hi
        have h2 := hp j hj
        simp only [List.mem_cons, List.not_mem_nil, or_false] at h1 h2
        omega
    · refine ⟨?_, ?_, ?_, ?_, ?_, ?_, ?_, ?_, ?_, ?_, ?_, ?_, ?_, ?_, ?_, ?_, ?_, trivial⟩
      · intro L9 α a9 u9 K9 hL hcl hA hG hS h0 hK
        replace hL : L9 0 = false := hL
        have q18 : a9.tmps[18]? = some (.slice (some ⟨nd30, 0, none⟩) 3 3) := (h0 18 (by kernel_rfl)).trans rfl
        have s18 := Rega.eval_of q18
        go_simp
        exact hK _ α _ (fun _ _ => rfl) rfl (step_same (st9) hL hcl rfl rfl hG)
      · intro L9 α a9 u9 K9 hL hcl hA hG hS h0 hK
        replace hL : L9 1 = false := hL
        have q119 : a9.tmps[119]? = some (.slice (some ⟨nd30, 0, none⟩) 3 3) := hS 0 119 (by decide) rfl (by show 119 < 135; decide)
        have s119 := Rega.eval_of q119
        go_simp
        exact hK _ α _ (fun _ _ => rfl) rfl (step_same (st9) hL hcl rfl rfl hG)
      · intro L9 α a9 u9 K9 hL hcl hA hG hS h0 hK
        replace hL : L9 2 = false := hL
        have q120 : a9.tmps[120]? = some (.pointer (some ⟨nd30, 4, none⟩)) := hS 1 120 (by decide) rfl (by show 120 < 135; decide)
        have s120 := Rega.eval_of q120
        have e0 : rMns10R loc kl nd14 B18 nd21 B25 nd30 nd31 nd32 nd39 nd40 nd41 L9 α 1999 = row (nd30) 30 #[.iface 220 (.pointer (some ⟨nd31, 0, none⟩)), .int .i32 loc, .iface 247 (.pointer (some ⟨nd32, 0, none⟩)), .int .i32 loc, .iface 50 (.pointer (some ⟨nd14, 0, none⟩)), .int .i32 kl] := rfl
        have hr := hG.rowAt 1999 (act_base 1999 rfl) e0
        have c0 : u9.cell? ⟨nd30, 4, none⟩ = some (.iface 50 (.pointer (some ⟨nd14, 0, none⟩))) := hr.cell rfl
        have c1 : u9.cell? ⟨nd30, 5, none⟩ = some (.int .i32 kl) := hr.cell rfl
        clear hr e0
        go_simp
        exact hK _ α _ (fun _ _ => rfl) rfl (step_same (st9) hL hcl rfl rfl hG)
      · intro L9 α a9 u9 K9 hL hcl hA hG hS h0 hK
        replace hL : L9 3 = false := hL
        have q121 : a9.tmps[121]? = some (.agg #[.iface 50 (.pointer (some ⟨nd14, 0, none⟩)), .int .i32 kl]) := hS 2 121 (by decide) rfl (by show 121 < 135; decide)
        have s121 := Rega.eval_of q121
        go_simp
        have hM : ∀ i, i ∈ [] → act rMns10Cnt 4 L9 i := by intro i hi; simp at hi
        have hP : Own w0 u9 [] _ := hG.pick [] (by decide) (by simp)
        clear hM
        refine Calls.mono (asStrO nd14 kl _ _ _ hP ) ?_
        rintro e9 u1 ⟨rfl, hQ⟩
        obtain ⟨α', hα'⟩ : ∃ α' : Rega.Atoms, α' = α := ⟨_, rfl⟩
        have hα : ∀ j, j % 1000 ≠ 3 → α' j = α j := fun j hj => by rw [hα']
        skip
        refine hK _ α' _ hα ?_ (step_call (st9) hL hcl hα [] [] (by decide) (by decide) (by decide) (M := _) ?_ hG hQ)
        · rfl
        · show [] = _
          rw []
      · intro L9 α a9 u9 K9 hL hcl hA hG hS h0 hK
        replace hL : L9 4 = false := hL
        have q13 : a9.tmps[13]? = some (.pointer (some ⟨B18, 0, none⟩)) := (h0 13 (by kernel_rfl)).trans rfl
        have s13 := Rega.eval_of q13
        have e0 : rMns10R loc kl nd14 B18 nd21 B25 nd30 nd31 nd32 nd39 nd40 nd41 L9 α 3999 = row (B18) 30 #[.iface 50 (.pointer (some ⟨nd14, 0, none⟩)), .int .i32 kl] := rfl
        have hr := hG.rowAt 3999 (act_base 3999 rfl) e0
        have c0 : u9.cell? ⟨B18, 0, none⟩ = some (.iface 50 (.pointer (some ⟨nd14, 0, none⟩))) := hr.cell rfl
        have c1 : u9.cell? ⟨B18, 1, none⟩ = some (.int .i32 kl) := hr.cell rfl
        clear hr e0
        go_simp
        exact hK _ α _ (fun _ _ => rfl) rfl (step_same (st9) hL hcl rfl rfl hG)
      · intro L9 α a9 u9 K9 hL hcl hA hG hS h0 hK
        replace hL : L9 5 = false := hL
        have q123 : a9.tmps[123]? = some (.agg #[.iface 50 (.pointer (some ⟨nd14, 0, none⟩)), .int .i32 kl]) := hS 4 123 (by decide) rfl (by show 123 < 135; decide)
        have s123 := Rega.eval_of q123
        go_simp
        have hM : ∀ i, i ∈ [] → act rMns10Cnt 4 L9 i := by intro i hi; simp at hi
        have hP : Own w0 u9 [] _ := hG.pick [] (by decide) (by simp)
        clear hM
        refine Calls.mono (asStrO nd14 kl _ _ _ hP ) ?_
        rintro e9 u1 ⟨rfl, hQ⟩
        obtain ⟨α', hα'⟩ : ∃ α' : Rega.Atoms, α' = α := ⟨_, rfl⟩
        have hα : ∀ j, j % 1000 ≠ 5 → α' j = α j := fun j hj => by rw [hα']
        skip
        refine hK _ α' _ hα ?_ (step_call (st9) hL hcl hα [] [] (by decide) (by decide) (by decide) (M := _) ?_ hG hQ)
        · rfl
        · show [] = _
          rw []
      · intro L9 α a9 u9 K9 hL hcl hA hG hS h0 hK
        replace hL : L9 6 = false := hL
        have q122 : a9.tmps[122]? = some (.pointer (some ⟨nd14, 0, none⟩)) := hS 3 122 (by decide) rfl (by show 122 < 135; decide)
        have s122 := Rega.eval_of q122
        have q124 : a9.tmps[124]? = some (.pointer (some ⟨nd14, 0, none⟩)) := hS 5 124 (by decide) rfl (by show 124 < 135; decide)
        have s124 := Rega.eval_of q124
        go_simp
        exact hK _ α _ (fun _ _ => rfl) rfl (step_same (st9) hL hcl rfl rfl hG)
      · intro L9 α a9 u9 K9 hL hcl hA hG hS h0 hK
        replace hL : L9 7 = false := hL
        have q125 : a9.tmps[125]? = some (.bool true) := hS 6 125 (by decide) rfl (by show 125 < 135; decide)
        have s125 := Rega.eval_of q125
        go_simp
        exact hK _ α _ (fun _ _ => rfl) rfl (step_same (st9) hL hcl rfl rfl hG)
      · intro L9 α a9 u9 K9 hL hcl hA hG hS h0 hK
        replace hL : L9 8 = false := hL
        have q20 : a9.tmps[20]? = some (.slice (some ⟨nd39, 0, none⟩) 3 3) := (h0 20 (by kernel_rfl)).trans rfl
        have s20 := Rega.eval_of q20
        have q126 : a9.tmps[126]? = some (.bool true) := hS 7 126 (by decide) rfl (by show 126 < 135; decide)
        have s126 := Rega.eval_of q126
        go_simp
        exact hK _ α _ (fun _ _ => rfl) rfl (step_same (st9) hL hcl rfl rfl hG)
      · intro L9 α a9 u9 K9 hL hcl hA hG hS h0 hK
        replace hL : L9 9 = false := hL
        have q127 : a9.tmps[127]? = some (.slice (some ⟨nd39, 0, none⟩) 3 3) := hS 8 127 (by decide) rfl (by show 127 < 135; decide)
        have s127 := Rega.eval_of q127
        have q126 : a9.tmps[126]? = some (.bool true) := hS 7 126 (by decide) rfl (by show 126 < 135; decide)
        have s126 := Rega.eval_of q126
        go_simp
        exact hK _ α _ (fun _ _ => rfl) rfl (step_same (st9) hL hcl rfl rfl hG)
      · intro L9 α a9 u9 K9 hL hcl hA hG hS h0 hK
        replace hL : L9 10 = false := hL
        have q128 : a9.tmps[128]? = some (.pointer (some ⟨nd39, 4, none⟩)) := hS 9 128 (by decide) rfl (by show 128 < 135; decide)
        have s128 := Rega.eval_of q128
        have q126 : a9.tmps[126]? = some (.bool true) := hS 7 126 (by decide) rfl (by show 126 < 135; decide)
        have s126 := Rega.eval_of q126
        have e0 : rMns10R loc kl nd14 B18 nd21 B25 nd30 nd31 nd32 nd39 nd40 nd41 L9 α 999 = row (nd39) 30 #[.iface 220 (.pointer (some ⟨nd40, 0, none⟩)), .int .i32 loc, .iface 247 (.pointer (some ⟨nd41, 0, none⟩)), .int .i32 loc, .iface 50 (.pointer (some ⟨nd21, 0, none⟩)), .int .i32 kl] := rfl
        have hr := hG.rowAt 999 (act_base 999 rfl) e0
        have c0 : u9.cell? ⟨nd39, 4, none⟩ = some (.iface 50 (.pointer (some ⟨nd21, 0, none⟩))) := hr.cell rfl
        have c1 : u9.cell? ⟨nd39, 5, none⟩ = some (.int .i32 kl) := hr.cell rfl
        clear hr e0
        go_simp
        exact hK _ α _ (fun _ _ => rfl) rfl (step_same (st9) hL hcl rfl rfl hG)
      · intro L9 α a9 u9 K9 hL hcl hA hG hS h0 hK
        replace hL : L9 11 = false := hL
        have q129 : a9.tmps[129]? = some (.agg #[.iface 50 (.pointer (some ⟨nd21, 0, none⟩)), .int .i32 kl]) := hS 10 129 (by decide) rfl (by show 129 < 135; decide)
        have s129 := Rega.eval_of q129
        have q126 : a9.tmps[126]? = some (.bool true) := hS 7 126 (by decide) rfl (by show 126 < 135; decide)
        have s126 := Rega.eval_of q126
        go_simp
        have hM : ∀ i, i ∈ [] → act rMns10Cnt 4 L9 i := by intro i hi; simp at hi
        have hP : Own w0 u9 [] _ := hG.pick [] (by decide) (by simp)
        clear hM
        refine Calls.mono (asStrO nd21 kl _ _ _ hP ) ?_
        rintro e9 u1 ⟨rfl, hQ⟩
        obtain ⟨α', hα'⟩ : ∃ α' : Rega.Atoms, α' = α := ⟨_, rfl⟩
        have hα : ∀ j, j % 1000 ≠ 11 → α' j = α j := fun j hj => by rw [hα']
        skip
        refine hK _ α' _ hα ?_ (step_call (st9) hL hcl hα [] [] (by decide) (by decide) (by decide) (M := _) ?_ hG hQ)
        · rfl
        · show [] = _
          rw []
      · intro L9 α a9 u9 K9 hL hcl hA hG hS h0 hK
        replace hL : L9 12 = false := hL
        have q14 : a9.tmps[14]? = some (.pointer (some ⟨B25, 0, none⟩)) := (h0 14 (by kernel_rfl)).trans rfl
        have s14 := Rega.eval_of q14
        have q126 : a9.tmps[126]? = some (.bool true) := hS 7 126 (by decide) rfl (by show 126 < 135; decide)
        have s126 := Rega.eval_of q126
        have e0 : rMns10R loc kl nd14 B18 nd21 B25 nd30 nd31 nd32 nd39 nd40 nd41 L9 α 2999 = row (B25) 30 #[.iface 50 (.pointer (some ⟨nd21, 0, none⟩)), .int .i32 kl] := rfl
        have hr := hG.rowAt 2999 (act_base 2999 rfl) e0
        have c0 : u9.cell? ⟨B25, 0, none⟩ = some (.iface 50 (.pointer (some ⟨nd21, 0, none⟩))) := hr.cell rfl
        have c1 : u9.cell? ⟨B25, 1, none⟩ = some (.int .i32 kl) := hr.cell rfl
        clear hr e0
        go_simp
        exact hK _ α _ (fun _ _ => rfl) rfl (step_same (st9) hL hcl rfl rfl hG)
      · intro L9 α a9 u9 K9 hL hcl hA hG hS h0 hK
        replace hL : L9 13 = false := hL
        have q131 : a9.tmps[131]? = some (.agg #[.iface 50 (.pointer (some ⟨nd21, 0, none⟩)), .int .i32 kl]) := hS 12 131 (by decide) rfl (by show 131 < 135; decide)
        have s131 := Rega.eval_of q131
        have q126 : a9.tmps[126]? = some (.bool true) := hS 7 126 (by decide) rfl (by show 126 < 135; decide)
        have s126 := Rega.eval_of q126
        go_simp
        have hM : ∀ i, i ∈ [] → act rMns10Cnt 4 L9 i := by intro i hi; simp at hi
        have hP : Own w0 u9 [] _ := hG.pick [] (by decide) (by simp)
        clear hM
        refine Calls.mono (asStrO nd21 kl _ _ _ hP ) ?_
        rintro e9 u1 ⟨rfl, hQ⟩
        obtain ⟨α', hα'⟩ : ∃ α' : Rega.Atoms, α' = α := ⟨_, rfl⟩
        have hα : ∀ j, j % 1000 ≠ 13 → α' j = α j := fun j hj => by rw [hα']
        skip
        refine hK _ α' _ hα ?_ (step_call (st9) hL hcl hα [] [] (by decide) (by decide) (by decide) (M := _) ?_ hG hQ)
        · rfl
        · show [] = _
          rw []
      · intro L9 α a9 u9 K9 hL hcl hA hG hS h0 hK
        replace hL : L9 14 = false := hL
        have q130 : a9.tmps[130]? = some (.pointer (some ⟨nd21, 0, none⟩)) := hS 11 130 (by decide) rfl (by show 130 < 135; decide)
        have s130 := Rega.eval_of q130
        have q132 : a9.tmps[132]? = some (.pointer (some ⟨nd21, 0, none⟩)) := hS 13 132 (by decide) rfl (by show 132 < 135; decide)
        have s132 := Rega.eval_of q132
        have q126 : a9.tmps[126]? = some (.bool true) := hS 7 126 (by decide) rfl (by show 126 < 135; decide)
        have s126 := Rega.eval_of q126
        go_simp
        exact hK _ α _ (fun _ _ => rfl) rfl (step_same (st9) hL hcl rfl rfl hG)
      · intro L9 α a9 u9 K9 hL hcl hA hG hS h0 hK
        replace hL : L9 15 = false := hL
        have q126 : a9.tmps[126]? = some (.bool true) := hS 7 126 (by decide) rfl (by show 126 < 135; decide)
        have s126 := Rega.eval_of q126
        have q133 : a9.tmps[133]? = some (.bool true) := hS 14 133 (by decide) rfl (by show 133 < 135; decide)
        have s133 := Rega.eval_of q133
        go_simp
        exact hK _ α _ (fun _ _ => rfl) rfl (step_same (st9) hL hcl rfl rfl hG)
      · intro L9 α a9 u9 K9 hL hcl hA hG hS h0 hK
        replace hL : L9 16 = false := hL
        have q134 : a9.tmps[134]? = some (.bool true) := hS 15 134 (by decide) rfl (by show 134 < 135; decide)
        have s134 := Rega.eval_of q134
        go_simp
        exact hK _ α _ (fun _ _ => rfl) rfl (step_same (st9) hL hcl rfl rfl hG)
    · clear st9
      intro α u hG
      have e0 : rMns10R loc kl nd14 B18 nd21 B25 nd30 nd31 nd32 nd39 nd40 nd41 (fun k => decide (k < 17)) α 999 = row (nd39) 30 #[.iface 220 (.pointer (some ⟨nd40, 0, none⟩)), .int .i32 loc, .iface 247 (.pointer (some ⟨nd41, 0, none⟩)), .int .i32 loc, .iface 50 (.pointer (some ⟨nd21, 0, none⟩)), .int .i32 kl] := rfl
      have e1 : rMns10R loc kl nd14 B18 nd21 B25 nd30 nd31 nd32 nd39 nd40 nd41 (fun k => decide (k < 17)) α 1999 = row (nd30) 30 #[.iface 220 (.pointer (some ⟨nd31, 0, none⟩)), .int .i32 loc, .iface 247 (.pointer (some ⟨nd32, 0, none⟩)), .int .i32 loc, .iface 50 (.pointer (some ⟨nd14, 0, none⟩)), .int .i32 kl] := rfl
      have e2 : rMns10R loc kl nd14 B18 nd21 B25 nd30 nd31 nd32 nd39 nd40 nd41 (fun k => decide (k < 17)) α 2999 = row (B25) 30 #[.iface 50 (.pointer (some ⟨nd21, 0, none⟩)), .int .i32 kl] := rfl
      have e3 : rMns10R loc kl nd14 B18 nd21 B25 nd30 nd31 nd32 nd39 nd40 nd41 (fun k => decide (k < 17)) α 3999 = row (B18) 30 #[.iface 50 (.pointer (some ⟨nd14, 0, none⟩)), .int .i32 kl] := rfl
      have hO : Own w0 u [row (nd39) 30 #[.iface 220 (.pointer (some ⟨nd40, 0, none⟩)), .int .i32 loc, .iface 247 (.pointer (some ⟨nd41, 0, none⟩)), .int .i32 loc, .iface 50 (.pointer (some ⟨nd21, 0, none⟩)), .int .i32 kl], row (nd30) 30 #[.iface 220 (.pointer (some ⟨nd31, 0, none⟩)), .int .i32 loc, .iface 247 (.pointer (some ⟨nd32, 0, none⟩)), .int .i32 loc, .iface 50 (.pointer (some ⟨nd14, 0, none⟩)), .int .i32 kl], row (B25) 30 #[.iface 50 (.pointer (some ⟨nd21, 0, none⟩)), .int .i32 kl], row (B18) 30 #[.iface 50 (.pointer (some ⟨nd14, 0, none⟩)), .int .i32 kl]] X9_47 := (hG.list [999, 1999, 2999, 3999] (by decide) (act_all (by decide))).conv (by
        show [rMns10R loc kl nd14 B18 nd21 B25 nd30 nd31 nd32 nd39 nd40 nd41 (fun k => decide (k < 17)) α 999, rMns10R loc kl nd14 B18 nd21 B25 nd30 nd31 nd32 nd39 nd40 nd41 (fun k => decide (k < 17)) α 1999, rMns10R loc kl nd14 B18 nd21 B25 nd30 nd31 nd32 nd39 nd40 nd41 (fun k => decide (k < 17)) α 2999, rMns10R loc kl nd14 B18 nd21 B25 nd30 nd31 nd32 nd39 nd40 nd41 (fun k => decide (k < 17)) α 3999] = _
        rw [e0, e1, e2, e3])
      clear hG e0 e1 e2 e3
      generalize hfr : Rega.frameAt _ _ _ _ _ = fr
      have hdf : fr = ⟨#[.bool false, .bool true, .int .i32 loc, .int .i32 kl, .string nm, undef, undef, undef, undef, undef, .bool true, .pointer (some ⟨nd2, 0, none⟩), .pointer (some ⟨nd8, 0, none⟩), .pointer (some ⟨B18, 0, none⟩), .pointer (some ⟨B25, 0, none⟩), .pointer (some ⟨B34, 0, none⟩), .pointer (some ⟨B42, 0, none⟩), .pointer (some ⟨nd33, 0, none⟩), .slice (some ⟨nd30, 0, none⟩) 3 3, .bool true, .slice (some ⟨nd39, 0, none⟩) 3 3, .bool true, .bool false, .bool true, .int .i32 loc, .int .i32 kl, .string nm, .bool true, .bool false, .string nm, .int .i64 (nm.size : Int), .bool (decide (65536 < (nm.size : Int))), .bool false, .bool true, .pointer (some ⟨nd2, 0, none⟩), .bool false, .bool true, .pointer (some ⟨nd8, 0, none⟩), .int .i32 kl, .string nm, .agg #[.iface 50 (.pointer (some ⟨nd14, 0, none⟩)), .int .i32 kl], .int .i32 kl, .string nm, .agg #[.iface 50 (.pointer (some ⟨nd21, 0, none⟩)), .int .i32 kl], .pointer (some ⟨nd2, 0, none⟩), .int .i32 loc, .agg #[.iface 50 (.pointer (some ⟨nd14, 0, none⟩)), .int .i32 kl], .agg #[.iface 40 (.pointer (some ⟨nd33, 0, none⟩)), .int .i32 loc], .pointer (some ⟨nd8, 0, none⟩), .int .i32 loc, .agg #[.iface 50 (.pointer (some ⟨nd21, 0, none⟩)), .int .i32 kl], .agg #[.iface 52 (.pointer (some ⟨nd37, 0, none⟩)), .int .i32 loc], .agg #[.iface 40 (.pointer (some ⟨nd33, 0, none⟩)), .int .i32 loc], .pointer (some ⟨nd33, 0, none⟩), .pointer (some ⟨nd33, 0, none⟩), .bool false, .bool false, .pointer (some ⟨nd33, 0, none⟩), .pointer (some ⟨nd33, 0, none⟩), .pointer (some ⟨nd33, 2, none⟩), .string ⟨#[95]⟩, .bool false, .bool false, .bool false, .pointer (some ⟨B34, 1, none⟩), .agg #[.int .i32 loc], .pointer (some ⟨B42, 1, none⟩), .agg #[.int .i32 loc], .bool false, .bool false, .tuple #[.slice (some ⟨nd30, 0, none⟩) 3 3, .bool true], .pointer (some ⟨nd33, 0, none⟩), .pointer (some ⟨nd33, 0, none⟩), .pointer (some ⟨nd33, 0, none⟩), .agg #[.iface 52 (.pointer (some ⟨nd28, 0, none⟩)), .int .i32 loc], .int .i32 loc, .tuple #[.slice (some ⟨nd30, 0, none⟩) 3 3, .bool true], .slice (some ⟨nd30, 0, none⟩) 3 3, .bool true, .tuple #[.slice (some ⟨nd39, 0, none⟩) 3 3, .bool true], .agg #[.iface 52 (.pointer (some ⟨nd37, 0, none⟩)), .int .i32 loc], .int .i32 loc, .tuple #[.slice (some ⟨nd39, 0, none⟩) 3 3, .bool true], .slice (some ⟨nd39, 0, none⟩) 3 3, .bool true, .bool true, .bool false, .bool false, .bool true, .bool false, .bool false, .bool false, .slice (some ⟨nd30, 0, none⟩) 3 3, .int .i64 3, .bool false, .bool false, .bool false, .slice (some ⟨nd39, 0, none⟩) 3 3, .int .i64 3, .bool false, .bool false, .slice (some ⟨nd30, 0, none⟩) 3 3, .pointer (some ⟨nd30, 0, none⟩), .agg #[.iface 220 (.pointer (some ⟨nd31, 0, none⟩)), .int .i32 loc], .slice (some ⟨nd39, 0, none⟩) 3 3, .pointer (some ⟨nd39, 0, none⟩), .agg #[.iface 220 (.pointer (some ⟨nd40, 0, none⟩)), .int .i32 loc], .bool true, .bool false, .bool false, .slice (some ⟨nd30, 0, none⟩) 3 3, .pointer (some ⟨nd30, 2, none⟩), .agg #[.iface 247 (.pointer (some ⟨nd32, 0, none⟩)), .int .i32 loc], .slice (some ⟨nd39, 0, none⟩) 3 3, .pointer (some ⟨nd39, 2, none⟩), .agg #[.iface 247 (.pointer (some ⟨nd41, 0, none⟩)), .int .i32 loc], .bool true, .bool false, .bool false, .slice (some ⟨nd30, 0, none⟩) 3 3, .pointer (some ⟨nd30, 4, none⟩), .agg #[.iface 50 (.pointer (some ⟨nd14, 0, none⟩)), .int .i32 kl], .pointer (some ⟨nd14, 0, none⟩), .agg #[.iface 50 (.pointer (some ⟨nd14, 0, none⟩)), .int .i32 kl], .pointer (some ⟨nd14, 0, none⟩), .bool true, .bool true, .slice (some ⟨nd39, 0, none⟩) 3 3, .pointer (some ⟨nd39, 4, none⟩), .agg #[.iface 50 (.pointer (some ⟨nd21, 0, none⟩)), .int .i32 kl], .pointer (some ⟨nd21, 0, none⟩), .agg #[.iface 50 (.pointer (some ⟨nd21, 0, none⟩)), .int .i32 kl], .pointer (some ⟨nd21, 0, none⟩), .bool true, .bool true], []⟩ := by rw [← hfr]; kernel_rfl
      clear hfr
      subst hdf
      clear α
      subst hX9_47
      have hN : Own w0 u [row (nd39) 30 #[.iface 220 (.pointer (some ⟨nd40, 0, none⟩)), .int .i32 loc, .iface 247 (.pointer (some ⟨nd41, 0, none⟩)), .int .i32 loc, .iface 50 (.pointer (some ⟨nd21, 0, none⟩)), .int .i32 kl], row (nd30) 30 #[.iface 220 (.pointer (some ⟨nd31, 0, none⟩)), .int .i32 loc, .iface 247 (.pointer (some ⟨nd32, 0, none⟩)), .int .i32 loc, .iface 50 (.pointer (some ⟨nd14, 0, none⟩)), .int .i32 kl], row (B25) 30 #[.iface 50 (.pointer (some ⟨nd21, 0, none⟩)), .int .i32 kl], row (B18) 30 #[.iface 50 (.pointer (some ⟨nd14, 0, none⟩)), .int .i32 kl], row (nd40) 223 #[.int .u32 0, .int .u32 1, .bool false, .bool false, .bool false], row (nd31) 223 #[.int .u32 0, .int .u32 1, .bool false, .bool false, .bool false], row (nd37) 56 #[.iface 220 (.pointer (some ⟨nd38, 0, none⟩)), .int .i32 loc, .slice (some ⟨nd39, 0, none⟩) 3 3, .int .i32 0, .int .u8 0, .int .u8 0, .bool false, .bool false], row (nd38) 223 #[.int .u32 0, .int .u32 3, .bool false, .bool false, .bool false], row (nd28) 56 #[.iface 220 (.pointer (some ⟨nd29, 0, none⟩)), .int .i32 loc, .slice (some ⟨nd30, 0, none⟩) 3 3, .int .i32 0, .int .u8 0, .int .u8 0, .bool false, .bool false], row (nd29) 223 #[.int .u32 0, .int .u32 2, .bool false, .bool false, .bool false], row (B42) 30 #[.iface 52 (.pointer (some ⟨nd37, 0, none⟩)), .int .i32 loc], row (nd41) 248 #[], row (B34) 30 #[.iface 40 (.pointer (some ⟨nd33, 0, none⟩)), .int .i32 loc], row (nd32) 248 #[], row (nd33) 44 #[.iface 52 (.pointer (some ⟨nd28, 0, none⟩)), .int .i32 loc, .string ⟨#[95]⟩, .int .i32 loc, .int .u8 0, .bool false, .bool false, .bool false], row (nd21) 214 #[.slice (some ⟨nd22, 0, none⟩) nd23 nd24, .int .i32 0, .bool false, .bool false, .bool false], row (nd14) 214 #[.slice (some ⟨nd15, 0, none⟩) nd16 nd17, .int .i32 0, .bool false, .bool false, .bool false]] X := hO.back HL.out HX.out [1, 3, 4, 5, 6, 7, 8, 9, 10, 11, 12, 14, 16] (by decide) (by decide)
      clear hO HL HX
      have hO := hN
      clear hN
      have ne9_0_1 : ¬ nd39 = nd30 := hO.ne 0 1 rfl rfl (by decide)
      have ne9_0_2 : ¬ nd39 = B25 := hO.ne 0 2 rfl rfl (by decide)
      have ne9_0_3 : ¬ nd39 = B18 := hO.ne 0 3 rfl rfl (by decide)
      have ne9_0_10 : ¬ nd39 = B42 := hO.ne 0 10 rfl rfl (by decide)
      have ne9_0_12 : ¬ nd39 = B34 := hO.ne 0 12 rfl rfl (by decide)
      have ne9_1_0 : ¬ nd30 = nd39 := hO.ne 1 0 rfl rfl (by decide)
      have ne9_1_2 : ¬ nd30 = B25 := hO.ne 1 2 rfl rfl (by decide)
      have ne9_1_3 : ¬ nd30 = B18 := hO.ne 1 3 rfl rfl (by decide)
      have ne9_1_10 : ¬ nd30 = B42 := hO.ne 1 10 rfl rfl (by decide)
      have ne9_1_12 : ¬ nd30 = B34 := hO.ne 1 12 rfl rfl (by decide)
      have ne9_2_0 : ¬ B25 = nd39 := hO.ne 2 0 rfl rfl (by decide)
      have ne9_2_1 : ¬ B25 = nd30 := hO.ne 2 1 rfl rfl (by decide)
      have ne9_2_3 : ¬ B25 = B18 := hO.ne 2 3 rfl rfl (by decide)
      have ne9_2_10 : ¬ B25 = B42 := hO.ne 2 10 rfl rfl (by decide)
      have ne9_2_12 : ¬ B25 = B34 := hO.ne 2 12 rfl rfl (by decide)
      have ne9_3_0 : ¬ B18 = nd39 := hO.ne 3 0 rfl rfl (by decide)
      have ne9_3_1 : ¬ B18 = nd30 := hO.ne 3 1 rfl rfl (by decide)
      have ne9_3_2 : ¬ B18 = B25 := hO.ne 3 2 rfl rfl (by decide)
      have ne9_3_10 : ¬ B18 = B42 := hO.ne 3 10 rfl rfl (by decide)
      have ne9_3_12 : ¬ B18 = B34 := hO.ne 3 12 rfl rfl (by decide)
      have ne9_4_5 : ¬ nd40 = nd31 := hO.ne 4 5 rfl rfl (by decide)
      have ne9_4_7 : ¬ nd40 = nd38 := hO.ne 4 7 rfl rfl (by decide)
      have ne9_4_9 : ¬ nd40 = nd29 := hO.ne 4 9 rfl rfl (by decide)
      have ne9_5_4 : ¬ nd31 = nd40 := hO.ne 5 4 rfl rfl (by decide)
      have ne9_5_7 : ¬ nd31 = nd38 := hO.ne 5 7 rfl rfl (by decide)
      have ne9_5_9 : ¬ nd31 = nd29 := hO.ne 5 9 rfl rfl (by decide)
      have ne9_6_8 : ¬ nd37 = nd28 := hO.ne 6 8 rfl rfl (by decide)
      have ne9_7_4 : ¬ nd38 = nd40 := hO.ne 7 4 rfl rfl (by decide)
      have ne9_7_5 : ¬ nd38 = nd31 := hO.ne 7 5 rfl rfl (by decide)
      have ne9_7_9 : ¬ nd38 = nd29 := hO.ne 7 9 rfl rfl (by decide)
      have ne9_8_6 : ¬ nd28 = nd37 := hO.ne 8 6 rfl rfl (by decide)
      have ne9_9_4 : ¬ nd29 = nd40 := hO.ne 9 4 rfl rfl (by decide)
      have ne9_9_5 : ¬ nd29 = nd31 := hO.ne 9 5 rfl rfl (by decide)
      have ne9_9_7 : ¬ nd29 = nd38 := hO.ne 9 7 rfl rfl (by decide)
      have ne9_10_0 : ¬ B42 = nd39 := hO.ne 10 0 rfl rfl (by decide)
      have ne9_10_1 : ¬ B42 = nd30 := hO.ne 10 1 rfl rfl (by decide)
      have ne9_10_2 : ¬ B42 = B25 := hO.ne 10 2 rfl rfl (by decide)
      have ne9_10_3 : ¬ B42 = B18 := hO.ne 10 3 rfl rfl (by decide)
      have ne9_10_12 : ¬ B42 = B34 := hO.ne 10 12 rfl rfl (by decide)
      have ne9_11_13 : ¬ nd41 = nd32 := hO.ne 11 13 rfl rfl (by decide)
      have ne9_12_0 : ¬ B34 = nd39 := hO.ne 12 0 rfl rfl (by decide)
      have ne9_12_1 : ¬ B34 = nd30 := hO.ne 12 1 rfl rfl (by decide)
      have ne9_12_2 : ¬ B34 = B25 := hO.ne 12 2 rfl rfl (by decide)
      have ne9_12_3 : ¬ B34 = B18 := hO.ne 12 3 rfl rfl (by decide)
      have ne9_12_10 : ¬ B34 = B42 := hO.ne 12 10 rfl rfl (by decide)
      have ne9_13_11 : ¬ nd32 = nd41 := hO.ne 13 11 rfl rfl (by decide)
      have ne9_15_16 : ¬ nd21 = nd14 := hO.ne 15 16 rfl rfl (by decide)
      have ne9_16_15 : ¬ nd14 = nd21 := hO.ne 16 15 rfl rfl (by decide)
      obtain ⟨c9_0_0, c9_0_1, c9_0_2, c9_0_3, c9_0_4, c9_0_5, lt9_0, y9_0, pl9_0⟩ := hO.k6 0 rfl
      obtain ⟨c9_1_0, c9_1_1, c9_1_2, c9_1_3, c9_1_4, c9_1_5, lt9_1, y9_1, pl9_1⟩ := hO.k6 1 rfl
      obtain ⟨c9_2_0, c9_2_1, lt9_2, y9_2, pl9_2⟩ := hO.k2 2 rfl
      obtain ⟨c9_3_0, c9_3_1, lt9_3, y9_3, pl9_3⟩ := hO.k2 3 rfl
      obtain ⟨c9_4_0, c9_4_1, c9_4_2, c9_4_3, c9_4_4, lt9_4, y9_4, pl9_4⟩ := hO.k5 4 rfl
      obtain ⟨c9_5_0, c9_5_1, c9_5_2, c9_5_3, c9_5_4, lt9_5, y9_5, pl9_5⟩ := hO.k5 5 rfl
      obtain ⟨c9_6_0, c9_6_1, c9_6_2, c9_6_3, c9_6_4, c9_6_5, c9_6_6, c9_6_7, lt9_6, y9_6, pl9_6⟩ := hO.k8 6 rfl
      obtain ⟨c9_7_0, c9_7_1, c9_7_2, c9_7_3, c9_7_4, lt9_7, y9_7, pl9_7⟩ := hO.k5 7 rfl
      obtain ⟨c9_8_0, c9_8_1, c9_8_2, c9_8_3, c9_8_4, c9_8_5, c9_8_6, c9_8_7, lt9_8, y9_8, pl9_8⟩ := hO.k8 8 rfl
      obtain ⟨c9_9_0, c9_9_1, c9_9_2, c9_9_3, c9_9_4, lt9_9, y9_9, pl9_9⟩ := hO.k5 9 rfl
      obtain ⟨c9_10_0, c9_10_1, lt9_10, y9_10, pl9_10⟩ := hO.k2 10 rfl
      obtain ⟨lt9_11, y9_11, pl9_11⟩ := hO.k0 11 rfl
      obtain ⟨c9_12_0, c9_12_1, lt9_12, y9_12, pl9_12⟩ := hO.k2 12 rfl
      obtain ⟨lt9_13, y9_13, pl9_13⟩ := hO.k0 13 rfl
      obtain ⟨c9_14_0, c9_14_1, c9_14_2, c9_14_3, c9_14_4, c9_14_5, c9_14_6, c9_14_7, lt9_14, y9_14, -⟩ := hO.k8 14 rfl
      obtain ⟨c9_15_0, c9_15_1, c9_15_2, c9_15_3, c9_15_4, lt9_15, y9_15, pl9_15⟩ := hO.k5 15 rfl
      obtain ⟨c9_16_0, c9_16_1, c9_16_2, c9_16_3, c9_16_4, lt9_16, y9_16, pl9_16⟩ := hO.k5 16 rfl
      have HO := Lib.hid hO
      clear hO
      go_wp2_with (first | (go_at_call 39; go_in) | (go_at_call 40; go_in) | (go_at_call 18; go_in) | (go_at_call 23; go_in) | (go_at_call 21; go_in) | (go_at_call 41; go_in) | (go_at_call 42; go_in) | (go_at_call 28; go_in) | (go_at_call 43; go_in) | (go_at_call 15; go_in))
      have hO := HO.out
      clear HO ne9_0_1 ne9_0_2 ne9_0_3 ne9_0_10 ne9_0_12 ne9_1_0 ne9_1_2 ne9_1_3 ne9_1_10 ne9_1_12 ne9_2_0 ne9_2_1 ne9_2_3 ne9_2_10 ne9_2_12 ne9_3_0 ne9_3_1 ne9_3_2 ne9_3_10 ne9_3_12 ne9_4_5 ne9_4_7 ne9_4_9 ne9_5_4 ne9_5_7 ne9_5_9 ne9_6_8 ne9_7_4 ne9_7_5 ne9_7_9 ne9_8_6 ne9_9_4 ne9_9_5 ne9_9_7 ne9_10_0 ne9_10_1 ne9_10_2 ne9_10_3 ne9_10_12 ne9_11_13 ne9_12_0 ne9_12_1 ne9_12_2 ne9_12_3 ne9_12_10 ne9_13_11 ne9_15_16 ne9_16_15 c9_0_0 c9_0_1 c9_0_2 c9_0_3 c9_0_4 c9_0_5 lt9_0 y9_0 pl9_0 c9_1_0 c9_1_1 c9_1_2 c9_1_3 c9_1_4 c9_1_5 lt9_1 y9_1 pl9_1 c9_2_0 c9_2_1 lt9_2 y9_2 pl9_2 c9_3_0 c9_3_1 lt9_3 y9_3 pl9_3 c9_4_0 c9_4_1 c9_4_2 c9_4_3 c9_4_4 lt9_4 y9_4 pl9_4 c9_5_0 c9_5_1 c9_5_2 c9_5_3 c9_5_4 lt9_5 y9_5 pl9_5 c9_6_0 c9_6_1 c9_6_2 c9_6_3 c9_6_4 c9_6_5 c9_6_6 c9_6_7 lt9_6 y9_6 pl9_6 c9_7_0 c9_7_1 c9_7_2 c9_7_3 c9_7_4 lt9_7 y9_7 pl9_7 c9_8_0 c9_8_1 c9_8_2 c9_8_3 c9_8_4 c9_8_5 c9_8_6 c9_8_7 lt9_8 y9_8 pl9_8 c9_9_0 c9_9_1 c9_9_2 c9_9_3 c9_9_4 lt9_9 y9_9 pl9_9 c9_10_0 c9_10_1 lt9_10 y9_10 pl9_10 lt9_11 y9_11 pl9_11 c9_12_0 c9_12_1 lt9_12 y9_12 pl9_12 lt9_13 y9_13 pl9_13 c9_14_0 c9_14_1 c9_14_2 c9_14_3 c9_14_4 c9_14_5 c9_14_6 c9_14_7 lt9_14 y9_14 c9_15_0 c9_15_1 c9_15_2 c9_15_3 c9_15_4 lt9_15 y9_15 pl9_15 c9_16_0 c9_16_1 c9_16_2 c9_16_3 c9_16_4 lt9_16 y9_16 pl9_16
      refine bodyPost_ret (v := .bool true) ?_ rfl ⟨rfl, hO.sub [] (by decide)⟩
      simp [results, Tryd.results4, go_sem]
end Go.Proofs.YtcbdjbjbikiaeaaDoor.Use
