/- Row 22: behind the first pass. No condition. -/
import Derived.Test.YtcbdjbjbikiaeaaDoorHb22
import Derived.Test.YtcbdjbjbikiaeaaDoorDarr
import Derived.Test.YtcbdjbjbikiaeaaDoorInn
import Derived.Test.YtcbdjbjbikiaeaaDoorIta
import Derived.Test.YtcbdjbjbikiaeaaDoorNdt
import Derived.Test.YtcbdjbjbikiaeaaDoorItm
import Derived.Test.YtcbdjbjbikiaeaaDoorOwn
import Derived.Test.YtcbdjbjbikiaeaaDoorOwnK
import Derived.Test.YtcbdjbjbikiaeaaDoorLoop
import Derived.Test.YtcbdjbjbikiaeaaDoorApp
import Derived.Test.YtcbdjbjbikiaeaaDoorDeepCells
import Derived.Test.YtcbdjbjbikiaeaaDoorRows
import Derived.Test.YtcbdjbjbikiaeaaDoorDead
namespace Go.Proofs.YtcbdjbjbikiaeaaDoor.Use
open Go.ChangeShapes Go.WideShapes Go.ChangeAt Go.RowKit Go.Sort Own
set_option linter.unusedVariables false
def rRS0E (n : Nat) (ea : Nat) (it : Nat) (vt : Nat → Nat) (vb : Nat → Nat) (ut : Nat → Nat) (ub : Nat → Nat) (B1_2 : Nat) (B1_1 : Nat) (j : Nat) : Nat → Rega.Atoms → Value
  | 0, α => .pointer (some ⟨ea, 0, none⟩)
  | 1, α => .pointer (some ⟨ea, 0, none⟩)
  | 2, α => .pointer (some ⟨ea, 0, none⟩)
  | 3, α => .slice (some ⟨it, 0, none⟩) n n
  | 4, α => .int .i64 (j : Int)
  | 5, α => .pointer (some ⟨it, j * 2, none⟩)
  | 6, α => .agg #[.iface (vt j) (.pointer (some ⟨(vb j), 0, none⟩)), .int .i32 (2 * (j : Int))]
  | 7, α => .slice (some ⟨B1_1, 0, none⟩) n n
  | 8, α => .int .i64 (j : Int)
  | 9, α => .pointer (some ⟨B1_1, j * 2, none⟩)
  | 10, α => .agg #[.iface (vt j) (.pointer (some ⟨(vb j), 0, none⟩)), .int .i32 (2 * (j : Int))]
  | 11, α => .bool true
  | 12, α => .bool false
  | 13, α => .bool false
  | 14, α => .pointer (some ⟨ea, 0, none⟩)
  | 15, α => .pointer (some ⟨ea, 0, none⟩)
  | 16, α => .pointer (some ⟨ea, 0, none⟩)
  | 17, α => .slice (some ⟨it, 0, none⟩) n n
  | 18, α => .int .i64 (j : Int)
  | 19, α => .pointer (some ⟨it, j * 2, none⟩)
  | 20, α => .agg #[.iface (vt j) (.pointer (some ⟨(vb j), 0, none⟩)), .int .i32 (2 * (j : Int))]
  | 21, α => .agg #[.iface (ut j) (.pointer (some ⟨ub j, 0, none⟩)), .int .i32 (2 * (j : Int))]
  | 22, α => .slice (some ⟨B1_2, 0, none⟩) n n
  | 23, α => .int .i64 (j : Int)
  | 24, α => .pointer (some ⟨B1_2, j * 2, none⟩)
  | 25, α => .agg #[.iface (ut j) (.pointer (some ⟨(ub j), 0, none⟩)), .int .i32 (2 * (j : Int))]
  | 26, α => .bool true
  | 27, α => .bool false
  | 28, α => .bool false
  | _, _ => undef
def rRS0Anc : Nat → List Nat
  | 1 => [0]
  | 2 => [0, 1]
  | 3 => [0, 1, 2]
  | 5 => [0, 1, 2, 3, 4]
  | 6 => [0, 1, 2, 3, 4, 5]
  | 9 => [7, 8]
  | 10 => [7, 8, 9]
  | 11 => [0, 1, 2, 3, 4, 5, 6, 7, 8, 9, 10]
  | 12 => [0, 1, 2, 3, 4, 5, 6, 7, 8, 9, 10, 11]
  | 13 => [0, 1, 2, 3, 4, 5, 6, 7, 8, 9, 10, 11, 12]
  | 14 => [0, 1, 2, 3, 4, 5, 6, 7, 8, 9, 10, 11, 12, 13]
  | 15 => [0, 1, 2, 3, 4, 5, 6, 7, 8, 9, 10, 11, 12, 13, 14]
  | 16 => [0, 1, 2, 3, 4, 5, 6, 7, 8, 9, 10, 11, 12, 13, 14, 15]
  | 17 => [0, 1, 2, 3, 4, 5, 6, 7, 8, 9, 10, 11, 12, 13, 14, 15, 16]
  | 18 => [0, 1, 2, 3, 4, 5, 6, 7, 8, 9, 10, 11, 12, 13]
  | 19 => [0, 1, 2, 3, 4, 5, 6, 7, 8, 9, 10, 11, 12, 13, 14, 15, 16, 17, 18]
  | 20 => [0, 1, 2, 3, 4, 5, 6, 7, 8, 9, 10, 11, 12, 13, 14, 15, 16, 17, 18, 19]
  | 21 => [0, 1, 2, 3, 4, 5, 6, 7, 8, 9, 10, 11, 12, 13, 14, 15, 16, 17, 18, 19, 20]
  | 22 => [0, 1, 2, 3, 4, 5, 6, 7, 8, 9, 10, 11, 12, 13]
  | 23 => [0, 1, 2, 3, 4, 5, 6, 7, 8, 9, 10, 11, 12, 13]
  | 24 => [0, 1, 2, 3, 4, 5, 6, 7, 8, 9, 10, 11, 12, 13, 22, 23]
  | 25 => [0, 1, 2, 3, 4, 5, 6, 7, 8, 9, 10, 11, 12, 13, 22, 23, 24]
  | 26 => [0, 1, 2, 3, 4, 5, 6, 7, 8, 9, 10, 11, 12, 13, 14, 15, 16, 17, 18, 19, 20, 21, 22, 23, 24, 25]
  | 27 => [0, 1, 2, 3, 4, 5, 6, 7, 8, 9, 10, 11, 12, 13, 14, 15, 16, 17, 18, 19, 20, 21, 22, 23, 24, 25, 26]
  | 28 => [0, 1, 2, 3, 4, 5, 6, 7, 8, 9, 10, 11, 12, 13, 14, 15, 16, 17, 18, 19, 20, 21, 22, 23, 24, 25, 26, 27]
  | _ => []
def rRS0Trn : Nat → List Nat
  | _ => []
def rRS0Cnt : List (Nat × Nat) := []
def rRS0R (n : Nat) (ea : Nat) (it : Nat) (vt : Nat → Nat) (vb : Nat → Nat) (ut : Nat → Nat) (ub : Nat → Nat) (B1_2 : Nat) (B1_1 : Nat) (j : Nat) (L9 : Nat → Bool) (α : Rega.Atoms) (ix9 : Nat) : Rw := if ix9 = 999 then row (ea) 65 #[.slice (some ⟨it, 0, none⟩) n n, .int .i32 0, .int .i32 0, .bool false, .bool false] else if ix9 = 1999 then row (it) 30 (itR vt vb n 0) else if ix9 = 2999 then row (B1_1) 30 (itR vt vb n 0) else if ix9 = 3999 then row (B1_2) 30 (itR ut ub n 0) else (0, .map #[] 0)
theorem rRS0_he (n : Nat) (ea : Nat) (it : Nat) (vt : Nat → Nat) (vb : Nat → Nat) (ut : Nat → Nat) (ub : Nat → Nat) (B1_2 : Nat) (B1_1 : Nat) (j : Nat) : ∀ kk α α', (∀ j, (j % 1000 = kk ∨ j % 1000 ∈ rRS0Anc kk) → α j = α' j) → rRS0E n ea it vt vb ut ub B1_2 B1_1 j kk α = rRS0E n ea it vt vb ut ub B1_2 B1_1 j kk α' := by
  intro kk α α' h
  match kk with
  | 0 => rfl
  | 1 => rfl
  | 2 => rfl
  | 3 => rfl
  | 4 => rfl
  | 5 => rfl
  | 6 => rfl
  | 7 => rfl
  | 8 => rfl
  | 9 => rfl
  | 10 => rfl
  | 11 => rfl
  | 12 => rfl
  | 13 => rfl
  | 14 => rfl
  | 15 => rfl
  | 16 => rfl
  | 17 => rfl
  | 18 => rfl
  | 19 => rfl
  | 20 => rfl
  | 21 => rfl
  | 22 => rfl
  | 23 => rfl
  | 24 => rfl
  | 25 => rfl
  | 26 => rfl
  | 27 => rfl
  | 28 => rfl
  | n + 29 => rfl
theorem rRS0_st (n : Nat) (ea : Nat) (it : Nat) (vt : Nat → Nat) (vb : Nat → Nat) (ut : Nat → Nat) (ub : Nat → Nat) (B1_2 : Nat) (B1_1 : Nat) (j : Nat) : Stable rRS0Cnt 4 rRS0Anc rRS0Trn (rRS0R n ea it vt vb ut ub B1_2 B1_1 j) := by
  intro k9 L9 α α' ix9 hk hcl hα hact ht
  have hp := act_places hact
  replace hp : ix9 ∈ [999, 1999, 2999, 3999] := hp
  simp only [List.mem_cons, List.not_mem_nil, or_false] at hp
  rcases hp with rfl | rfl | rfl | rfl
  · rfl
  · rfl
  · rfl
  · rfl

set_option maxRecDepth 100000 in
set_option maxHeartbeats 4000000 in
theorem rs22 (l r s : Bool) (n : Nat) (nm : ByteArray) (w0 : World) (X : Nat → Obj → Prop) (Post : Ending → World → Prop) (hP : ∀ (w3 : World) (Y : Nat → Obj → Prop), Own w0 w3 [] Y → Post (.returned (.bool true)) w3) : Hb22b l r s n nm w0 X (bodyPost Tryd.prog Tryd.f6 Post) := by
  have HP := Lib.hid hP
  clear hP
  unfold Hb22b
  intro pb mp cr ea it ra rb PC vt vb ut ub Y uz0 uz1 uz2 uz3 uz4 uz5 uz6 uz7 uz8 uz9 uz10 uz14 uz18 uz19 uz20 uz21 uz22 uz23 uz24 uz25 uz26 uz27 uz28 uz29 uz30 uz31 uz32 uz33 uz34 uz35 uz36 uz37 uz38 uz39 uz40 uz41 uz42 uz43 uz44 uz45 uz46 uz47 uz48 uz49 uz50 uz51 uz52 uz53 uz54 uz55 uz56 uz57 uz58 uz59 uz60 uz61 uz62 uz63 uz64 uz65 uz66 uz67 uz68 uz69 uz70 uz71 uz72 uz73 uz74 uz75 uz76 uz77 uz78 uz79 uz80 uz81 uz82 uz83 uz84 uz85 uz86 uz87 uz88 uz89 uz90 uz91 uz92 uz93 uz94 uz95 uz96 uz97 uz98 uz99 uz100 uz101 uz102 uz103 uz104 uz105 uz106 uz107 uz108 uz109 uz110 uz111 uz112 uz113 uz114 uz115 uz116 uz117 uz118 uz119 uz120 uz121 uz122 uz123 uz124 uz125 uz126 uz127 uz128 uz129 uz130 uz131 uz132 uz133 uz134 uz135 uz136 uz137 uz138 uz139 uz140 uz141 uz142 uz143 uz144 uz145 uz146 uz147 uz148 uz149 uz150 uz151 uz152 uz153 uz154 uz155 uz156 uz157 uz158 uz159 uz160 uz161 uz162 uz163 uz164 uz165 uz166 uz167 uz168 uz169 uz170 uz171 uz172 uz173 uz174 uz175 uz176 uz177 w hD hl hn4 hlen hc hi hO
  simp only [rest22b, Tryd.f6, Option.getD_some, cutC]
  have HC := Lib.hid hc
  have HI := Lib.hid hi
  clear hc hi
  have hn9 : (n : Int) ≤ 4096 := by omega
  have hn8 : (0 : Int) ≤ (n : Int) := by omega
  have hms := makeExps n (by omega)
  obtain ⟨c9_1_0, c9_1_1, c9_1_2, c9_1_3, c9_1_4, lt9_1, y9_1, -⟩ := hO.k5 1 rfl
  obtain ⟨c9_3_0, c9_3_1, lt9_3, y9_3, -⟩ := hO.k2 3 rfl
  have HO := Lib.hid hO
  clear hO
  go_wp2_with (first | (with_reducible refine Own.stay (fn := Tryd.f6) ?_) | (first | (go_at_call 28; go_in)))
  try with_reducible refine Own.Stay.mk ?_
  have hO := HO.out
  clear HO c9_1_0 c9_1_1 c9_1_2 c9_1_3 c9_1_4 lt9_1 y9_1 c9_3_0 c9_3_1 lt9_3 y9_3
  generalize hW : World.alloc _ _ = W2
  have hN : Own w0 W2 [row (w.heap.size + 1 + 1) 30 (full expZ [] n), row (w.heap.size + 1) 30 (full expZ [] n), row (w.heap.size) 30 #[.iface 62 (.pointer (some ⟨ea, 0, none⟩)), .int .i32 (-1)], row (pb) 206 PC, row (ea) 65 #[.slice (some ⟨it, 0, none⟩) n n, .int .i32 0, .int .i32 0, .bool false, .bool false], row (it) 30 (itR vt vb n 0), row (rb) 30 #[.iface 62 (.pointer (some ⟨ea, 0, none⟩)), .int .i32 (-1)]] Y := by
    rw [← hW]
    exact (((hO).alloc' _ (w.heap.size) (by simp)).alloc' _ (w.heap.size + 1) (by simp)).alloc' _ (w.heap.size + 1 + 1) (by simp)
  clear hW hO
  generalize w.heap.size + 1 + 1 = B1_2 at hN ⊢
  generalize w.heap.size + 1 = B1_1 at hN ⊢
  generalize w.heap.size = B1 at hN ⊢
  have hO := hN
  clear hN
  have hN : Own w0 W2 [row (B1_2) 30 (full expZ [] n), row (B1_1) 30 (full expZ [] n), row (pb) 206 PC, row (ea) 65 #[.slice (some ⟨it, 0, none⟩) n n, .int .i32 0, .int .i32 0, .bool false, .bool false], row (it) 30 (itR vt vb n 0), row (rb) 30 #[.iface 62 (.pointer (some ⟨ea, 0, none⟩)), .int .i32 (-1)]] Y := hO.sub [0, 1, 3, 4, 5, 6] (by decide)
  clear hO
  have hO := hN
  clear hN
  go_loopg [21] n (fun gf s21 wx => ∃ j : Nat, j + gf = n ∧ s21 = .int .i64 (j : Int) ∧ Own w0 wx [row (pb) 206 PC, row (ea) 65 #[.slice (some ⟨it, 0, none⟩) n n, .int .i32 0, .int .i32 0, .bool false, .bool false], row (it) 30 (itR vt vb n 0), row (rb) 30 #[.iface 62 (.pointer (some ⟨ea, 0, none⟩)), .int .i32 (-1)], row (B1_1) 30 (itR vt vb j gf), row (B1_2) 30 (itR ut ub j gf)] Y)
  case atStart => exact ⟨0, by omega, rfl, (hO.sub [2, 3, 4, 5, 1, 0] (by decide)).conv rfl⟩
  obtain ⟨j, hjn, rfl, hO⟩ := hrel
  by_cases hlt : j < n
  · skip
    obtain ⟨gq, rfl⟩ : ∃ gq, gk = gq + 1 := ⟨gk - 1, by omega⟩
    have hlt9 : (j : Int) < (n : Int) := by omega
    have hj8 : (0 : Int) ≤ (j : Int) := by omega
    have hj7 : (j : Int) ≤ 4096 := by omega
    obtain ⟨ix9, hix9, hax9, hjx9⟩ := hO.ix
    have ix9_0 : ix9 pb = 0 := hjx9 0 _ _ rfl
    have ix9_1 : ix9 ea = 1 := hjx9 1 _ _ rfl
    have ix9_2 : ix9 it = 2 := hjx9 2 _ _ rfl
    have ix9_3 : ix9 rb = 3 := hjx9 3 _ _ rfl
    have ix9_4 : ix9 B1_1 = 4 := hjx9 4 _ _ rfl
    have ix9_5 : ix9 B1_2 = 5 := hjx9 5 _ _ rfl
    clear hjx9
    obtain ⟨c9_1_0, c9_1_1, c9_1_2, c9_1_3, c9_1_4, lt9_1, y9_1, -⟩ := hO.k5 1 rfl
    have pl9_2 : Base.plainAt wr (it) = true := hO.plain 2 rfl
    have c9_2_j_2 : wr.cell? ⟨it, j * 2, none⟩ = some (.iface (vt j) (.pointer (some ⟨(vb j), 0, none⟩))) := hO.cell 2 rfl (j * 2) ((itR_at0 hlt))
    have c9_2_j_2_1 : wr.cell? ⟨it, j * 2 + 1, none⟩ = some (.int .i32 (2 * (j : Int))) := hO.cell 2 rfl (j * 2 + 1) ((itR_at1 hlt))
    have lt9_2 : it < wr.heap.size := hO.lt 2 rfl
    have y9_2 : ∀ o, wr.frozen? ⟨it, o, none⟩ = false := hO.free 2 rfl
    obtain ⟨c9_3_0, c9_3_1, lt9_3, y9_3, pl9_3⟩ := hO.k2 3 rfl
    have pl9_4 : Base.plainAt wr (B1_1) = true := hO.plain 4 rfl
    have c9_4_j_2 : wr.cell? ⟨B1_1, j * 2, none⟩ = some (.nilIface) := hO.cell 4 rfl (j * 2) (itR_z0)
    have c9_4_j_2_1 : wr.cell? ⟨B1_1, j * 2 + 1, none⟩ = some (.int .i32 0) := hO.cell 4 rfl (j * 2 + 1) (itR_z1)
    have lt9_4 : B1_1 < wr.heap.size := hO.lt 4 rfl
    have y9_4 : ∀ o, wr.frozen? ⟨B1_1, o, none⟩ = false := hO.free 4 rfl
    have pl9_5 : Base.plainAt wr (B1_2) = true := hO.plain 5 rfl
    have c9_5_j_2 : wr.cell? ⟨B1_2, j * 2, none⟩ = some (.nilIface) := hO.cell 5 rfl (j * 2) (itR_z0)
    have c9_5_j_2_1 : wr.cell? ⟨B1_2, j * 2 + 1, none⟩ = some (.int .i32 0) := hO.cell 5 rfl (j * 2 + 1) (itR_z1)
    have lt9_5 : B1_2 < wr.heap.size := hO.lt 5 rfl
    have y9_5 : ∀ o, wr.frozen? ⟨B1_2, o, none⟩ = false := hO.free 5 rfl
    have HO := Lib.hid hO
    clear hO
    go_wp2_with (first | (with_reducible refine Own.stay (fn := Tryd.f6) ?_) | (first | (go_at_call 28; go_in)))
    try with_reducible refine Own.Stay.mk ?_
    have hO := HO.out
    clear HO hix9 hax9 ix9_0 ix9_1 ix9_2 ix9_3 ix9_4 ix9_5 ix9 c9_1_0 c9_1_1 c9_1_2 c9_1_3 c9_1_4 lt9_1 y9_1 pl9_2 c9_2_j_2 c9_2_j_2_1 lt9_2 y9_2 c9_3_0 c9_3_1 lt9_3 y9_3 pl9_3 pl9_4 c9_4_j_2 c9_4_j_2_1 lt9_4 y9_4 pl9_5 c9_5_j_2 c9_5_j_2_1 lt9_5 y9_5
    generalize hW : World.setCell _ _ _ = W4
    have hN : Own w0 W4 [row (pb) 206 PC, row (ea) 65 #[.slice (some ⟨it, 0, none⟩) n n, .int .i32 0, .int .i32 0, .bool false, .bool false], row (it) 30 (itR vt vb n 0), row (rb) 30 #[.iface 62 (.pointer (some ⟨ea, 0, none⟩)), .int .i32 (-1)], row (B1_1) 30 (((itR vt vb j (gq + 1)).setIfInBounds (j * 2) (.iface (vt j) (.pointer (some ⟨vb j, 0, none⟩)))).setIfInBounds (j * 2 + 1) (.int .i32 (2 * (j : Int)))), row (B1_2) 30 (itR ut ub j (gq + 1))] Y := by
      rw [← hW]
      exact ((hO).set 4 rfl (j * 2) _).set 4 rfl (j * 2 + 1) _
    clear hW hO
    have hO := hN
    clear hN
    have hL := hO.apart
    have hX := hO.apartX
    have HL := Lib.hid hL
    have HX := Lib.hid hX
    clear hL hX
    have hP9 := hO.pick [] (by decide)
    have T9 := innItem (vt j) (vb j) (2 * (j : Int)) (ut j) (ub j) (2 * (j : Int)) _ _ _ hP9 ((HI.out j hlt).mono fun b o h => Or.inl h)
    refine Calls.mono T9 ?_
    clear hP9 T9
    rintro e uw5 ⟨rfl, hQ⟩
    have hN : Own w0 uw5 [row (pb) 206 PC, row (ea) 65 #[.slice (some ⟨it, 0, none⟩) n n, .int .i32 0, .int .i32 0, .bool false, .bool false], row (it) 30 (itR vt vb n 0), row (rb) 30 #[.iface 62 (.pointer (some ⟨ea, 0, none⟩)), .int .i32 (-1)], row (B1_1) 30 (((itR vt vb j (gq + 1)).setIfInBounds (j * 2) (.iface (vt j) (.pointer (some ⟨vb j, 0, none⟩)))).setIfInBounds (j * 2 + 1) (.int .i32 (2 * (j : Int)))), row (B1_2) 30 (itR ut ub j (gq + 1))] Y := hQ.back HL.out HX.out [0, 1, 2, 3, 4, 5] (by decide) (by decide)
    clear hQ HL HX hO
    have hO := hN
    clear hN
    obtain ⟨ix9, hix9, hax9, hjx9⟩ := hO.ix
    have ix9_0 : ix9 pb = 0 := hjx9 0 _ _ rfl
    have ix9_1 : ix9 ea = 1 := hjx9 1 _ _ rfl
    have ix9_2 : ix9 it = 2 := hjx9 2 _ _ rfl
    have ix9_3 : ix9 rb = 3 := hjx9 3 _ _ rfl
    have ix9_4 : ix9 B1_1 = 4 := hjx9 4 _ _ rfl
    have ix9_5 : ix9 B1_2 = 5 := hjx9 5 _ _ rfl
    clear hjx9
    obtain ⟨c9_1_0, c9_1_1, c9_1_2, c9_1_3, c9_1_4, lt9_1, y9_1, -⟩ := hO.k5 1 rfl
    have pl9_2 : Base.plainAt uw5 (it) = true := hO.plain 2 rfl
    have c9_2_j_2 : uw5.cell? ⟨it, j * 2, none⟩ = some (.iface (vt j) (.pointer (some ⟨(vb j), 0, none⟩))) := hO.cell 2 rfl (j * 2) ((itR_at0 hlt))
    have c9_2_j_2_1 : uw5.cell? ⟨it, j * 2 + 1, none⟩ = some (.int .i32 (2 * (j : Int))) := hO.cell 2 rfl (j * 2 + 1) ((itR_at1 hlt))
    have lt9_2 : it < uw5.heap.size := hO.lt 2 rfl
    have y9_2 : ∀ o, uw5.frozen? ⟨it, o, none⟩ = false := hO.free 2 rfl
    obtain ⟨c9_3_0, c9_3_1, lt9_3, y9_3, pl9_3⟩ := hO.k2 3 rfl
    have pl9_4 : Base.plainAt uw5 (B1_1) = true := hO.plain 4 rfl
    have c9_4_j_2 : uw5.cell? ⟨B1_1, j * 2, none⟩ = some (.iface (vt j) (.pointer (some ⟨vb j, 0, none⟩))) := hO.cell 4 rfl (j * 2) ((get_other (get_set itR_z0 _) (by omega) _))
    have c9_4_j_2_1 : uw5.cell? ⟨B1_1, j * 2 + 1, none⟩ = some (.int .i32 (2 * (j : Int))) := hO.cell 4 rfl (j * 2 + 1) ((get_set (get_other itR_z1 (by omega) _) _))
    have lt9_4 : B1_1 < uw5.heap.size := hO.lt 4 rfl
    have y9_4 : ∀ o, uw5.frozen? ⟨B1_1, o, none⟩ = false := hO.free 4 rfl
    have pl9_5 : Base.plainAt uw5 (B1_2) = true := hO.plain 5 rfl
    have c9_5_j_2 : uw5.cell? ⟨B1_2, j * 2, none⟩ = some (.nilIface) := hO.cell 5 rfl (j * 2) (itR_z0)
    have c9_5_j_2_1 : uw5.cell? ⟨B1_2, j * 2 + 1, none⟩ = some (.int .i32 0) := hO.cell 5 rfl (j * 2 + 1) (itR_z1)
    have lt9_5 : B1_2 < uw5.heap.size := hO.lt 5 rfl
    have y9_5 : ∀ o, uw5.frozen? ⟨B1_2, o, none⟩ = false := hO.free 5 rfl
    have HO := Lib.hid hO
    clear hO
    go_wp2_with (first | (with_reducible refine Own.stay (fn := Tryd.f6) ?_) | (first | (go_at_call 28; go_in)))
    try with_reducible refine Own.Stay.mk ?_
    have hO := HO.out
    clear HO hix9 hax9 ix9_0 ix9_1 ix9_2 ix9_3 ix9_4 ix9_5 ix9 c9_1_0 c9_1_1 c9_1_2 c9_1_3 c9_1_4 lt9_1 y9_1 pl9_2 c9_2_j_2 c9_2_j_2_1 lt9_2 y9_2 c9_3_0 c9_3_1 lt9_3 y9_3 pl9_3 pl9_4 c9_4_j_2 c9_4_j_2_1 lt9_4 y9_4 pl9_5 c9_5_j_2 c9_5_j_2_1 lt9_5 y9_5
    generalize hW : World.setCell _ _ _ = W7
    have hN : Own w0 W7 [row (pb) 206 PC, row (ea) 65 #[.slice (some ⟨it, 0, none⟩) n n, .int .i32 0, .int .i32 0, .bool false, .bool false], row (it) 30 (itR vt vb n 0), row (rb) 30 #[.iface 62 (.pointer (some ⟨ea, 0, none⟩)), .int .i32 (-1)], row (B1_1) 30 (((itR vt vb j (gq + 1)).setIfInBounds (j * 2) (.iface (vt j) (.pointer (some ⟨vb j, 0, none⟩)))).setIfInBounds (j * 2 + 1) (.int .i32 (2 * (j : Int)))), row (B1_2) 30 (((itR ut ub j (gq + 1)).setIfInBounds (j * 2) (.iface (ut j) (.pointer (some ⟨ub j, 0, none⟩)))).setIfInBounds (j * 2 + 1) (.int .i32 (2 * (j : Int))))] Y := by
      rw [← hW]
      exact ((hO).set 5 rfl (j * 2) _).set 5 rfl (j * 2 + 1) _
    clear hW hO
    have hO := hN
    clear hN
    have hN : Own w0 W7 [row (pb) 206 PC, row (ea) 65 #[.slice (some ⟨it, 0, none⟩) n n, .int .i32 0, .int .i32 0, .bool false, .bool false], row (it) 30 (itR vt vb n 0), row (rb) 30 #[.iface 62 (.pointer (some ⟨ea, 0, none⟩)), .int .i32 (-1)], row (B1_1) 30 (itR vt vb (j + 1) gq), row (B1_2) 30 (itR ut ub (j + 1) gq)] Y := (hO.sub [0, 1, 2, 3, 4, 5] (by decide)).conv (by
      rw [← itR_next (t := vt) (b := vb) (i := j) (g := gq) vt vb (vt j) (vb j) (fun _ _ => rfl) (fun _ _ => rfl) rfl rfl, ← itR_next (t := ut) (b := ub) (i := j) (g := gq) ut ub (ut j) (ub j) (fun _ _ => rfl) (fun _ _ => rfl) rfl rfl]
      rfl)
    go_roundg gq
    case measure => omega
    case rel => exact ⟨j + 1, by omega, by first | rfl | simp, hN⟩
  obtain rfl : gk = 0 := by omega
  obtain rfl : n = j := by omega
  have hlt9 : ¬ (n : Int) < (n : Int) := by omega
  obtain ⟨c9_1_0, c9_1_1, c9_1_2, c9_1_3, c9_1_4, lt9_1, y9_1, -⟩ := hO.k5 1 rfl
  obtain ⟨c9_3_0, c9_3_1, lt9_3, y9_3, -⟩ := hO.k2 3 rfl
  have HO := Lib.hid hO
  clear hO
  go_wp2_with (first | (with_reducible refine Own.stay (fn := Tryd.f6) ?_) | (first | (go_at_call 28; go_in)))
  try with_reducible refine Own.Stay.mk ?_
  have hO := HO.out
  clear HO c9_1_0 c9_1_1 c9_1_2 c9_1_3 c9_1_4 lt9_1 y9_1 c9_3_0 c9_3_1 lt9_3 y9_3
  have hL := hO.apart
  have hX := hO.apartX
  have HL := Lib.hid hL
  have HX := Lib.hid hX
  clear hL hX
  have hP9 := hO.pick [0, 1, 2] (by decide)
  have T9 := darrCold pb PC mp cr r s (- 1) l ea it n vt vb _ _ _ hP9 hD hl hn4 (fun i hi => (HC.out i hi).mono fun b o h => Or.inl h)
  refine Calls.mono T9 ?_
  clear hP9 T9
  rintro e uw8 ⟨rfl, hQ⟩
  have hN : Own w0 uw8 [row (pb) 206 PC, row (ea) 65 #[.slice (some ⟨it, 0, none⟩) n n, .int .i32 0, .int .i32 0, .bool false, .bool false], row (it) 30 (itR vt vb n 0), row (rb) 30 #[.iface 62 (.pointer (some ⟨ea, 0, none⟩)), .int .i32 (-1)], row (B1_1) 30 (itR vt vb n 0), row (B1_2) 30 (itR ut ub n 0)] Y := hQ.back HL.out HX.out [3, 4, 5] (by decide) (by decide)
  clear hQ HL HX hO
  have hO := hN
  clear hN
  obtain ⟨c9_1_0, c9_1_1, c9_1_2, c9_1_3, c9_1_4, lt9_1, y9_1, -⟩ := hO.k5 1 rfl
  obtain ⟨c9_3_0, c9_3_1, lt9_3, y9_3, -⟩ := hO.k2 3 rfl
  have HO := Lib.hid hO
  clear hO
  go_wp2_with (first | (with_reducible refine Own.stay (fn := Tryd.f6) ?_) | (first | (go_at_call 28; go_in)))
  try with_reducible refine Own.Stay.mk ?_
  have hO := HO.out
  clear HO c9_1_0 c9_1_1 c9_1_2 c9_1_3 c9_1_4 lt9_1 y9_1 c9_3_0 c9_3_1 lt9_3 y9_3
  generalize hW : World.alloc _ _ = W10
  have hN : Own w0 W10 [row (uw8.heap.size + 1) 30 #[.iface 62 (.pointer (some ⟨ea, 0, none⟩)), .int .i32 (-1)], row (uw8.heap.size) 30 #[.iface 62 (.pointer (some ⟨ea, 0, none⟩)), .int .i32 (-1)], row (pb) 206 PC, row (ea) 65 #[.slice (some ⟨it, 0, none⟩) n n, .int .i32 0, .int .i32 0, .bool false, .bool false], row (it) 30 (itR vt vb n 0), row (rb) 30 #[.iface 62 (.pointer (some ⟨ea, 0, none⟩)), .int .i32 (-1)], row (B1_1) 30 (itR vt vb n 0), row (B1_2) 30 (itR ut ub n 0)] Y := by
    rw [← hW]
    exact ((hO).alloc' _ (uw8.heap.size) (by simp)).alloc' _ (uw8.heap.size + 1) (by simp)
  clear hW hO
  generalize uw8.heap.size + 1 = B9_1 at hN ⊢
  generalize uw8.heap.size = B9 at hN ⊢
  have hO := hN
  clear hN
  have hN : Own w0 W10 [row (ea) 65 #[.slice (some ⟨it, 0, none⟩) n n, .int .i32 0, .int .i32 0, .bool false, .bool false], row (it) 30 (itR vt vb n 0), row (B1_1) 30 (itR vt vb n 0), row (B1_2) 30 (itR ut ub n 0)] Y := hO.sub [3, 4, 6, 7] (by decide)
  clear hO
  have hO := hN
  clear hN
  go_loopg [24] n (fun gf s24 wx => ∃ j : Nat, j + gf = n ∧ s24 = .int .i64 (j : Int) ∧ Own w0 wx [row (ea) 65 #[.slice (some ⟨it, 0, none⟩) n n, .int .i32 0, .int .i32 0, .bool false, .bool false], row (it) 30 (itR vt vb n 0), row (B1_1) 30 (itR vt vb n 0), row (B1_2) 30 (itR ut ub n 0)] Y)
  case atStart => exact ⟨0, by omega, rfl, hO.sub [0, 1, 2, 3] (by decide)⟩
  obtain ⟨j, hjn, rfl, hO⟩ := hrel
  by_cases hlt : j < n
  · skip
    obtain ⟨gq, rfl⟩ : ∃ gq, gk = gq + 1 := ⟨gk - 1, by omega⟩
    have hlt9 : (j : Int) < (n : Int) := by omega
    have hj8 : (0 : Int) ≤ (j : Int) := by omega
    have hj7 : (j : Int) ≤ 4096 := by omega
    have HTA := Lib.hid (coldT (HC.out j hlt))
    have HTB := Lib.hid (innT (HI.out j hlt))
    obtain ⟨c9_0_0, c9_0_1, c9_0_2, c9_0_3, c9_0_4, lt9_0, y9_0, -⟩ := hO.k5 0 rfl
    have HO := Lib.hid hO
    clear hO
    go_wp2_with (first | (with_reducible refine Own.stay (fn := Tryd.f6) ?_) | (first | (go_at_call 28; go_in)))
    try with_reducible refine Own.Stay.mk ?_
    have hO := HO.out
    clear HO c9_0_0 c9_0_1 c9_0_2 c9_0_3 c9_0_4 lt9_0 y9_0
    have st9 := rRS0_st n ea it vt vb ut ub B1_2 B1_1 j
    let R9 := rRS0R n ea it vt vb ut ub B1_2 B1_1 j
    refine wp_region_own (e := rRS0E n ea it vt vb ut ub B1_2 B1_1 j) (anc := rRS0Anc) (G := (fun L9 α u9 => OwnF w0 u9 (act rRS0Cnt 4 L9) (rRS0R n ea it vt vb ut ub B1_2 B1_1 j L9 α) Y)) (by kernel_rfl) (by kernel_rfl) (by kernel_rfl) (by kernel_rfl) (rRS0_he n ea it vt vb ut ub B1_2 B1_1 j) ?_ (RunsAll.all ?_) ?_
    · have hp : ∀ i, act rRS0Cnt 4 (fun _ => false) i → i ∈ [999, 1999, 2999, 3999] := by
        intro i hi
        have h9 : i % 1000 = 999 := by
          by_cases h : i % 1000 = 999
          · exact h
          · exact absurd (act_lt hi h) (by simp)
        unfold act at hi
        rw [if_pos h9] at hi
        simp only [List.mem_cons, List.not_mem_nil, or_false]
        omega
      refine hO.drew.family (fun i hi => ?_) (fun i j hi hj hij => ?_)
      · have := hp i hi
        simp only [List.mem_cons, List.not_mem_nil, or_false] at this
        rcases this with rfl | rfl | rfl | rfl <;> rfl
      · have h1 := hp i hi
        have h2 := hp j hj
        simp only [List.mem_cons, List.not_mem_nil, or_false] at h1 h2
        omega
    · refine ⟨?_, ?_, ?_, ?_, ?_, ?_, ?_, ?_, ?_, ?_, ?_, ?_, ?_, ?_, ?_, ?_, ?_, ?_, ?_, ?_, ?_, ?_, ?_, ?_, ?_, ?_, ?_, ?_, ?_, trivial⟩
      · intro L9 α a9 u9 K9 hL hcl hA hG hS h0 h1 hK
        replace hL : L9 0 = false := hL
        have q16 : a9.tmps[16]? = some (.pointer (some ⟨ea, 0, none⟩)) := (h0 16 (by kernel_rfl)).trans rfl
        have s16 := Rega.eval_of q16
        go_simp
        exact hK _ α _ (fun _ _ => rfl) rfl (step_same (st9) hL hcl rfl rfl hG)
      · intro L9 α a9 u9 K9 hL hcl hA hG hS h0 h1 hK
        replace hL : L9 1 = false := hL
        have q149 : a9.tmps[149]? = some (.pointer (some ⟨ea, 0, none⟩)) := hS 0 149 (by decide) rfl (by show 149 < 178; decide)
        have s149 := Rega.eval_of q149
        go_simp
        exact hK _ α _ (fun _ _ => rfl) rfl (step_same (st9) hL hcl rfl rfl hG)
      · intro L9 α a9 u9 K9 hL hcl hA hG hS h0 h1 hK
        replace hL : L9 2 = false := hL
        have q150 : a9.tmps[150]? = some (.pointer (some ⟨ea, 0, none⟩)) := hS 1 150 (by decide) rfl (by show 150 < 178; decide)
        have s150 := Rega.eval_of q150
        go_simp
        exact hK _ α _ (fun _ _ => rfl) rfl (step_same (st9) hL hcl rfl rfl hG)
      · intro L9 α a9 u9 K9 hL hcl hA hG hS h0 h1 hK
        replace hL : L9 3 = false := hL
        have q151 : a9.tmps[151]? = some (.pointer (some ⟨ea, 0, none⟩)) := hS 2 151 (by decide) rfl (by show 151 < 178; decide)
        have s151 := Rega.eval_of q151
        have e0 : R9 L9 α 999 = row (ea) 65 #[.slice (some ⟨it, 0, none⟩) n n, .int .i32 0, .int .i32 0, .bool false, .bool false] := rfl
        have hr := hG.rowAt 999 (act_base 999 rfl) e0
        have c0 : u9.cell? ⟨ea, 0, none⟩ = some (.slice (some ⟨it, 0, none⟩) n n) := hr.cell rfl
        clear hr e0
        go_simp
        exact hK _ α _ (fun _ _ => rfl) rfl (step_same (st9) hL hcl rfl rfl hG)
      · intro L9 α a9 u9 K9 hL hcl hA hG hS h0 h1 hK
        replace hL : L9 4 = false := hL
        have q24 : a9.tmps[24]? = some (.int .i64 (j : Int)) := (h0 24 (by kernel_rfl)).trans rfl
        have s24 := Rega.eval_of q24
        go_simp
        exact hK _ α _ (fun _ _ => rfl) rfl (step_same (st9) hL hcl rfl rfl hG)
      · intro L9 α a9 u9 K9 hL hcl hA hG hS h0 h1 hK
        replace hL : L9 5 = false := hL
        have q152 : a9.tmps[152]? = some (.slice (some ⟨it, 0, none⟩) n n) := hS 3 152 (by decide) rfl (by show 152 < 178; decide)
        have s152 := Rega.eval_of q152
        have q153 : a9.tmps[153]? = some (.int .i64 (j : Int)) := hS 4 153 (by decide) rfl (by show 153 < 178; decide)
        have s153 := Rega.eval_of q153
        go_simp
        exact hK _ α _ (fun _ _ => rfl) rfl (step_same (st9) hL hcl rfl rfl hG)
      · intro L9 α a9 u9 K9 hL hcl hA hG hS h0 h1 hK
        replace hL : L9 6 = false := hL
        have q154 : a9.tmps[154]? = some (.pointer (some ⟨it, j * 2, none⟩)) := hS 5 154 (by decide) rfl (by show 154 < 178; decide)
        have s154 := Rega.eval_of q154
        have e0 : R9 L9 α 1999 = row (it) 30 (itR vt vb n 0) := rfl
        have hr := hG.rowAt 1999 (act_base 1999 rfl) e0
        have c0 : u9.cell? ⟨it, j * 2, none⟩ = some (.iface (vt j) (.pointer (some ⟨(vb j), 0, none⟩))) := hr.cell ((itR_at0 hlt))
        have c1 : u9.cell? ⟨it, j * 2 + 1, none⟩ = some (.int .i32 (2 * (j : Int))) := hr.cell ((itR_at1 hlt))
        clear hr e0
        go_simp
        exact hK _ α _ (fun _ _ => rfl) rfl (step_same (st9) hL hcl rfl rfl hG)
      · intro L9 α a9 u9 K9 hL hcl hA hG hS h0 h1 hK
        replace hL : L9 7 = false := hL
        have q19 : a9.tmps[19]? = some (.slice (some ⟨B1_1, 0, none⟩) n n) := (h0 19 (by kernel_rfl)).trans rfl
        have s19 := Rega.eval_of q19
        go_simp
        exact hK _ α _ (fun _ _ => rfl) rfl (step_same (st9) hL hcl rfl rfl hG)
      · intro L9 α a9 u9 K9 hL hcl hA hG hS h0 h1 hK
        replace hL : L9 8 = false := hL
        have q24 : a9.tmps[24]? = some (.int .i64 (j : Int)) := (h0 24 (by kernel_rfl)).trans rfl
        have s24 := Rega.eval_of q24
        go_simp
        exact hK _ α _ (fun _ _ => rfl) rfl (step_same (st9) hL hcl rfl rfl hG)
      · intro L9 α a9 u9 K9 hL hcl hA hG hS h0 h1 hK
        replace hL : L9 9 = false := hL
        have q156 : a9.tmps[156]? = some (.slice (some ⟨B1_1, 0, none⟩) n n) := hS 7 156 (by decide) rfl (by show 156 < 178; decide)
        have s156 := Rega.eval_of q156
        have q157 : a9.tmps[157]? = some (.int .i64 (j : Int)) := hS 8 157 (by decide) rfl (by show 157 < 178; decide)
        have s157 := Rega.eval_of q157
        go_simp
        exact hK _ α _ (fun _ _ => rfl) rfl (step_same (st9) hL hcl rfl rfl hG)
      · intro L9 α a9 u9 K9 hL hcl hA hG hS h0 h1 hK
        replace hL : L9 10 = false := hL
        have q158 : a9.tmps[158]? = some (.pointer (some ⟨B1_1, j * 2, none⟩)) := hS 9 158 (by decide) rfl (by show 158 < 178; decide)
        have s158 := Rega.eval_of q158
        have e0 : R9 L9 α 2999 = row (B1_1) 30 (itR vt vb n 0) := rfl
        have hr := hG.rowAt 2999 (act_base 2999 rfl) e0
        have c0 : u9.cell? ⟨B1_1, j * 2, none⟩ = some (.iface (vt j) (.pointer (some ⟨(vb j), 0, none⟩))) := hr.cell ((itR_at0 hlt))
        have c1 : u9.cell? ⟨B1_1, j * 2 + 1, none⟩ = some (.int .i32 (2 * (j : Int))) := hr.cell ((itR_at1 hlt))
        clear hr e0
        go_simp
        exact hK _ α _ (fun _ _ => rfl) rfl (step_same (st9) hL hcl rfl rfl hG)
      · intro L9 α a9 u9 K9 hL hcl hA hG hS h0 h1 hK
        replace hL : L9 11 = false := hL
        have q155 : a9.tmps[155]? = some (.agg #[.iface (vt j) (.pointer (some ⟨(vb j), 0, none⟩)), .int .i32 (2 * (j : Int))]) := hS 6 155 (by decide) rfl (by show 155 < 178; decide)
        have s155 := Rega.eval_of q155
        have q159 : a9.tmps[159]? = some (.agg #[.iface (vt j) (.pointer (some ⟨(vb j), 0, none⟩)), .int .i32 (2 * (j : Int))]) := hS 10 159 (by decide) rfl (by show 159 < 178; decide)
        have s159 := Rega.eval_of q159
        go_simp
        have hM : ∀ i, i ∈ [] → act rRS0Cnt 4 L9 i := by intro i hi; simp at hi
        have hP : Own w0 u9 [] _ := hG.pick [] (by decide) (by simp)
        clear hM
        refine Calls.mono (samItem (vt j) (vb j) (2 * (j : Int)) _ _ _ hP (by first | exact HTA.out | exact HTB.out)) ?_
        rintro e9 u1 ⟨rfl, hQ⟩
        obtain ⟨α', hα'⟩ : ∃ α' : Rega.Atoms, α' = α := ⟨_, rfl⟩
        have hα : ∀ j, j % 1000 ≠ 11 → α' j = α j := fun j hj => by rw [hα']
        skip
        refine hK _ α' _ hα ?_ (step_call (st9) hL hcl hα [] [] (by decide) (by decide) (by decide) (M := _) ?_ hG hQ)
        · rfl
        · rfl
      · intro L9 α a9 u9 K9 hL hcl hA hG hS h0 h1 hK
        replace hL : L9 12 = false := hL
        have q160 : a9.tmps[160]? = some (.bool true) := hS 11 160 (by decide) rfl (by show 160 < 178; decide)
        have s160 := Rega.eval_of q160
        go_simp
        exact hK _ α _ (fun _ _ => rfl) rfl (step_same (st9) hL hcl rfl rfl hG)
      · intro L9 α a9 u9 K9 hL hcl hA hG hS h0 h1 hK
        replace hL : L9 13 = false := hL
        have q161 : a9.tmps[161]? = some (.bool false) := hS 12 161 (by decide) rfl (by show 161 < 178; decide)
        have s161 := Rega.eval_of q161
        go_simp
        exact hK _ α _ (fun _ _ => rfl) rfl (step_same (st9) hL hcl rfl rfl hG)
      · intro L9 α a9 u9 K9 hL hcl hA hG hS h0 h1 hK
        replace hL : L9 14 = false := hL
        have q16 : a9.tmps[16]? = some (.pointer (some ⟨ea, 0, none⟩)) := (h0 16 (by kernel_rfl)).trans rfl
        have s16 := Rega.eval_of q16
        have q162 : a9.tmps[162]? = some (.bool false) := hS 13 162 (by decide) rfl (by show 162 < 178; decide)
        have s162 := Rega.eval_of q162
        go_simp
        exact hK _ α _ (fun _ _ => rfl) rfl (step_same (st9) hL hcl rfl rfl hG)
      · intro L9 α a9 u9 K9 hL hcl hA hG hS h0 h1 hK
        replace hL : L9 15 = false := hL
        have q163 : a9.tmps[163]? = some (.pointer (some ⟨ea, 0, none⟩)) := hS 14 163 (by decide) rfl (by show 163 < 178; decide)
        have s163 := Rega.eval_of q163
        have q162 : a9.tmps[162]? = some (.bool false) := hS 13 162 (by decide) rfl (by show 162 < 178; decide)
        have s162 := Rega.eval_of q162
        go_simp
        exact hK _ α _ (fun _ _ => rfl) rfl (step_same (st9) hL hcl rfl rfl hG)
      · intro L9 α a9 u9 K9 hL hcl hA hG hS h0 h1 hK
        replace hL : L9 16 = false := hL
        have q164 : a9.tmps[164]? = some (.pointer (some ⟨ea, 0, none⟩)) := hS 15 164 (by decide) rfl (by show 164 < 178; decide)
        have s164 := Rega.eval_of q164
        have q162 : a9.tmps[162]? = some (.bool false) := hS 13 162 (by decide) rfl (by show 162 < 178; decide)
        have s162 := Rega.eval_of q162
        go_simp
        exact hK _ α _ (fun _ _ => rfl) rfl (step_same (st9) hL hcl rfl rfl hG)
      · intro L9 α a9 u9 K9 hL hcl hA hG hS h0 h1 hK
        replace hL : L9 17 = false := hL
        have q165 : a9.tmps[165]? = some (.pointer (some ⟨ea, 0, none⟩)) := hS 16 165 (by decide) rfl (by show 165 < 178; decide)
        have s165 := Rega.eval_of q165
        have q162 : a9.tmps[162]? = some (.bool false) := hS 13 162 (by decide) rfl (by show 162 < 178; decide)
        have s162 := Rega.eval_of q162
        have e0 : R9 L9 α 999 = row (ea) 65 #[.slice (some ⟨it, 0, none⟩) n n, .int .i32 0, .int .i32 0, .bool false, .bool false] := rfl
        have hr := hG.rowAt 999 (act_base 999 rfl) e0
        have c0 : u9.cell? ⟨ea, 0, none⟩ = some (.slice (some ⟨it, 0, none⟩) n n) := hr.cell rfl
        clear hr e0
        go_simp
        exact hK _ α _ (fun _ _ => rfl) rfl (step_same (st9) hL hcl rfl rfl hG)
      · intro L9 α a9 u9 K9 hL hcl hA hG hS h0 h1 hK
        replace hL : L9 18 = false := hL
        have q24 : a9.tmps[24]? = some (.int .i64 (j : Int)) := (h0 24 (by kernel_rfl)).trans rfl
        have s24 := Rega.eval_of q24
        have q162 : a9.tmps[162]? = some (.bool false) := hS 13 162 (by decide) rfl (by show 162 < 178; decide)
        have s162 := Rega.eval_of q162
        go_simp
        exact hK _ α _ (fun _ _ => rfl) rfl (step_same (st9) hL hcl rfl rfl hG)
      · intro L9 α a9 u9 K9 hL hcl hA hG hS h0 h1 hK
        replace hL : L9 19 = false := hL
        have q166 : a9.tmps[166]? = some (.slice (some ⟨it, 0, none⟩) n n) := hS 17 166 (by decide) rfl (by show 166 < 178; decide)
        have s166 := Rega.eval_of q166
        have q167 : a9.tmps[167]? = some (.int .i64 (j : Int)) := hS 18 167 (by decide) rfl (by show 167 < 178; decide)
        have s167 := Rega.eval_of q167
        have q162 : a9.tmps[162]? = some (.bool false) := hS 13 162 (by decide) rfl (by show 162 < 178; decide)
        have s162 := Rega.eval_of q162
        go_simp
        exact hK _ α _ (fun _ _ => rfl) rfl (step_same (st9) hL hcl rfl rfl hG)
      · intro L9 α a9 u9 K9 hL hcl hA hG hS h0 h1 hK
        replace hL : L9 20 = false := hL
        have q168 : a9.tmps[168]? = some (.pointer (some ⟨it, j * 2, none⟩)) := hS 19 168 (by decide) rfl (by show 168 < 178; decide)
        have s168 := Rega.eval_of q168
        have q162 : a9.tmps[162]? = some (.bool false) := hS 13 162 (by decide) rfl (by show 162 < 178; decide)
        have s162 := Rega.eval_of q162
        have e0 : R9 L9 α 1999 = row (it) 30 (itR vt vb n 0) := rfl
        have hr := hG.rowAt 1999 (act_base 1999 rfl) e0
        have c0 : u9.cell? ⟨it, j * 2, none⟩ = some (.iface (vt j) (.pointer (some ⟨(vb j), 0, none⟩))) := hr.cell ((itR_at0 hlt))
        have c1 : u9.cell? ⟨it, j * 2 + 1, none⟩ = some (.int .i32 (2 * (j : Int))) := hr.cell ((itR_at1 hlt))
        clear hr e0
        go_simp
        exact hK _ α _ (fun _ _ => rfl) rfl (step_same (st9) hL hcl rfl rfl hG)
      · intro L9 α a9 u9 K9 hL hcl hA hG hS h0 h1 hK
        replace hL : L9 21 = false := hL
        have q169 : a9.tmps[169]? = some (.agg #[.iface (vt j) (.pointer (some ⟨(vb j), 0, none⟩)), .int .i32 (2 * (j : Int))]) := hS 20 169 (by decide) rfl (by show 169 < 178; decide)
        have s169 := Rega.eval_of q169
        have q162 : a9.tmps[162]? = some (.bool false) := hS 13 162 (by decide) rfl (by show 162 < 178; decide)
        have s162 := Rega.eval_of q162
        go_simp
        have hM : ∀ i, i ∈ [] → act rRS0Cnt 4 L9 i := by intro i hi; simp at hi
        have hP : Own w0 u9 [] _ := hG.pick [] (by decide) (by simp)
        clear hM
        refine Calls.mono (innItem (vt j) (vb j) (2 * (j : Int)) (ut j) (ub j) (2 * (j : Int)) _ _ _ hP ((HI.out j hlt).mono fun b o h => Or.inl h)) ?_
        rintro e9 u1 ⟨rfl, hQ⟩
        obtain ⟨α', hα'⟩ : ∃ α' : Rega.Atoms, α' = α := ⟨_, rfl⟩
        have hα : ∀ j, j % 1000 ≠ 21 → α' j = α j := fun j hj => by rw [hα']
        skip
        refine hK _ α' _ hα ?_ (step_call (st9) hL hcl hα [] [] (by decide) (by decide) (by decide) (M := _) ?_ hG hQ)
        · rfl
        · rfl
      · intro L9 α a9 u9 K9 hL hcl hA hG hS h0 h1 hK
        replace hL : L9 22 = false := hL
        have q20 : a9.tmps[20]? = some (.slice (some ⟨B1_2, 0, none⟩) n n) := (h0 20 (by kernel_rfl)).trans rfl
        have s20 := Rega.eval_of q20
        have q162 : a9.tmps[162]? = some (.bool false) := hS 13 162 (by decide) rfl (by show 162 < 178; decide)
        have s162 := Rega.eval_of q162
        go_simp
        exact hK _ α _ (fun _ _ => rfl) rfl (step_same (st9) hL hcl rfl rfl hG)
      · intro L9 α a9 u9 K9 hL hcl hA hG hS h0 h1 hK
        replace hL : L9 23 = false := hL
        have q24 : a9.tmps[24]? = some (.int .i64 (j : Int)) := (h0 24 (by kernel_rfl)).trans rfl
        have s24 := Rega.eval_of q24
        have q162 : a9.tmps[162]? = some (.bool false) := hS 13 162 (by decide) rfl (by show 162 < 178; decide)
        have s162 := Rega.eval_of q162
        go_simp
        exact hK _ α _ (fun _ _ => rfl) rfl (step_same (st9) hL hcl rfl rfl hG)
      · intro L9 α a9 u9 K9 hL hcl hA hG hS h0 h1 hK
        replace hL : L9 24 = false := hL
        have q171 : a9.tmps[171]? = some (.slice (some ⟨B1_2, 0, none⟩) n n) := hS 22 171 (by decide) rfl (by show 171 < 178; decide)
        have s171 := Rega.eval_of q171
        have q172 : a9.tmps[172]? = some (.int .i64 (j : Int)) := hS 23 172 (by decide) rfl (by show 172 < 178; decide)
        have s172 := Rega.eval_of q172
        have q162 : a9.tmps[162]? = some (.bool false) := hS 13 162 (by decide) rfl (by show 162 < 178; decide)
        have s162 := Rega.eval_of q162
        go_simp
        exact hK _ α _ (fun _ _ => rfl) rfl (step_same (st9) hL hcl rfl rfl hG)
      · intro L9 α a9 u9 K9 hL hcl hA hG hS h0 h1 hK
        replace hL : L9 25 = false := hL
        have q173 : a9.tmps[173]? = some (.pointer (some ⟨B1_2, j * 2, none⟩)) := hS 24 173 (by decide) rfl (by show 173 < 178; decide)
        have s173 := Rega.eval_of q173
        have q162 : a9.tmps[162]? = some (.bool false) := hS 13 162 (by decide) rfl (by show 162 < 178; decide)
        have s162 := Rega.eval_of q162
        have e0 : R9 L9 α 3999 = row (B1_2) 30 (itR ut ub n 0) := rfl
        have hr := hG.rowAt 3999 (act_base 3999 rfl) e0
        have c0 : u9.cell? ⟨B1_2, j * 2, none⟩ = some (.iface (ut j) (.pointer (some ⟨(ub j), 0, none⟩))) := hr.cell ((itR_at0 hlt))
        have c1 : u9.cell? ⟨B1_2, j * 2 + 1, none⟩ = some (.int .i32 (2 * (j : Int))) := hr.cell ((itR_at1 hlt))
        clear hr e0
        go_simp
        exact hK _ α _ (fun _ _ => rfl) rfl (step_same (st9) hL hcl rfl rfl hG)
      · intro L9 α a9 u9 K9 hL hcl hA hG hS h0 h1 hK
        replace hL : L9 26 = false := hL
        have q170 : a9.tmps[170]? = some (.agg #[.iface (ut j) (.pointer (some ⟨ub j, 0, none⟩)), .int .i32 (2 * (j : Int))]) := hS 21 170 (by decide) rfl (by show 170 < 178; decide)
        have s170 := Rega.eval_of q170
        have q174 : a9.tmps[174]? = some (.agg #[.iface (ut j) (.pointer (some ⟨(ub j), 0, none⟩)), .int .i32 (2 * (j : Int))]) := hS 25 174 (by decide) rfl (by show 174 < 178; decide)
        have s174 := Rega.eval_of q174
        have q162 : a9.tmps[162]? = some (.bool false) := hS 13 162 (by decide) rfl (by show 162 < 178; decide)
        have s162 := Rega.eval_of q162
        go_simp
        have hM : ∀ i, i ∈ [] → act rRS0Cnt 4 L9 i := by intro i hi; simp at hi
        have hP : Own w0 u9 [] _ := hG.pick [] (by decide) (by simp)
        clear hM
        refine Calls.mono (samItem (ut j) (ub j) (2 * (j : Int)) _ _ _ hP (by first | exact HTA.out | exact HTB.out)) ?_
        rintro e9 u1 ⟨rfl, hQ⟩
        obtain ⟨α', hα'⟩ : ∃ α' : Rega.Atoms, α' = α := ⟨_, rfl⟩
        have hα : ∀ j, j % 1000 ≠ 26 → α' j = α j := fun j hj => by rw [hα']
        skip
        refine hK _ α' _ hα ?_ (step_call (st9) hL hcl hα [] [] (by decide) (by decide) (by decide) (M := _) ?_ hG hQ)
        · rfl
        · rfl
      · intro L9 α a9 u9 K9 hL hcl hA hG hS h0 h1 hK
        replace hL : L9 27 = false := hL
        have q175 : a9.tmps[175]? = some (.bool true) := hS 26 175 (by decide) rfl (by show 175 < 178; decide)
        have s175 := Rega.eval_of q175
        have q162 : a9.tmps[162]? = some (.bool false) := hS 13 162 (by decide) rfl (by show 162 < 178; decide)
        have s162 := Rega.eval_of q162
        go_simp
        exact hK _ α _ (fun _ _ => rfl) rfl (step_same (st9) hL hcl rfl rfl hG)
      · intro L9 α a9 u9 K9 hL hcl hA hG hS h0 h1 hK
        replace hL : L9 28 = false := hL
        have q162 : a9.tmps[162]? = some (.bool false) := hS 13 162 (by decide) rfl (by show 162 < 178; decide)
        have s162 := Rega.eval_of q162
        have q176 : a9.tmps[176]? = some (.bool false) := hS 27 176 (by decide) rfl (by show 176 < 178; decide)
        have s176 := Rega.eval_of q176
        go_simp
        exact hK _ α _ (fun _ _ => rfl) rfl (step_same (st9) hL hcl rfl rfl hG)
    clear st9
    intro α u hG
    have e0 : R9 (fun k => decide (k < 29)) α 999 = row (ea) 65 #[.slice (some ⟨it, 0, none⟩) n n, .int .i32 0, .int .i32 0, .bool false, .bool false] := rfl
    have e1 : R9 (fun k => decide (k < 29)) α 1999 = row (it) 30 (itR vt vb n 0) := rfl
    have e2 : R9 (fun k => decide (k < 29)) α 2999 = row (B1_1) 30 (itR vt vb n 0) := rfl
    have e3 : R9 (fun k => decide (k < 29)) α 3999 = row (B1_2) 30 (itR ut ub n 0) := rfl
    have hO : Own w0 u [row (ea) 65 #[.slice (some ⟨it, 0, none⟩) n n, .int .i32 0, .int .i32 0, .bool false, .bool false], row (it) 30 (itR vt vb n 0), row (B1_1) 30 (itR vt vb n 0), row (B1_2) 30 (itR ut ub n 0)] Y := (hG.list [999, 1999, 2999, 3999] (by decide) (act_all (by decide))).conv (by
      show [R9 (fun k => decide (k < 29)) α 999, R9 (fun k => decide (k < 29)) α 1999, R9 (fun k => decide (k < 29)) α 2999, R9 (fun k => decide (k < 29)) α 3999] = _
      rw [e0, e1, e2, e3])
    clear hG e0 e1 e2 e3 R9
    generalize hfr : Rega.frameAt _ _ _ _ _ = fr
    have hdf : fr = ⟨#[uz0, uz1, uz2, uz3, uz4, uz5, uz6, uz7, uz8, uz9, u10, .int .i64 (n : Int), .pointer (some ⟨pb, 0, none⟩), .slice (some ⟨it, 0, none⟩) n n, uz14, .pointer (some ⟨ra, 0, none⟩), .pointer (some ⟨ea, 0, none⟩), .pointer (some ⟨rb, 0, none⟩), uz18, .slice (some ⟨B1_1, 0, none⟩) n n, .slice (some ⟨B1_2, 0, none⟩) n n, .int .i64 (n : Int), .pointer (some ⟨B9, 0, none⟩), .bool false, .int .i64 (j : Int), uz25, uz26, uz27, uz28, uz29, uz30, uz31, uz32, uz33, uz34, uz35, uz36, uz37, uz38, uz39, uz40, uz41, uz42, uz43, uz44, uz45, uz46, uz47, uz48, uz49, uz50, uz51, uz52, uz53, uz54, uz55, uz56, uz57, uz58, uz59, uz60, uz61, uz62, uz63, uz64, uz65, uz66, uz67, uz68, uz69, uz70, uz71, uz72, uz73, uz74, uz75, uz76, uz77, uz78, .agg #[.iface 62 (.pointer (some ⟨ea, 0, none⟩)), .int .i32 (-1)], .pointer (some ⟨ea, 0, none⟩), .pointer (some ⟨ea, 0, none⟩), .bool false, .bool false, .pointer (some ⟨ea, 0, none⟩), .pointer (some ⟨ea, 0, none⟩), .pointer (some ⟨ea, 0, none⟩), .slice (some ⟨it, 0, none⟩) n n, .int .i64 (n : Int), .int .i64 (n : Int), .bool false, .bool false, .int .i64 (n : Int), .slice (some ⟨B1_1, 0, none⟩) n n, .int .i64 (n : Int), .slice (some ⟨B1_2, 0, none⟩) n n, .int .i64 (n : Int), .int .i64 (n : Int), .bool false, u99, u100, u101, u102, u103, u104, u105, u106, u107, u108, u109, u110, u111, u112, u113, u114, u115, u116, u117, u118, u119, u120, u121, .tuple #[.agg #[.iface 62 (.pointer (some ⟨ea, 0, none⟩)), .int .i32 (-1)], .bool false], .pointer (some ⟨pb, 0, none⟩), .agg #[.iface 62 (.pointer (some ⟨ea, 0, none⟩)), .int .i32 (-1)], .tuple #[.agg #[.iface 62 (.pointer (some ⟨ea, 0, none⟩)), .int .i32 (-1)], .bool false], .agg #[.iface 62 (.pointer (some ⟨ea, 0, none⟩)), .int .i32 (-1)], .bool false, .bool false, .bool false, .agg #[.iface 62 (.pointer (some ⟨ea, 0, none⟩)), .int .i32 (-1)], .pointer (some ⟨ea, 0, none⟩), .pointer (some ⟨ea, 0, none⟩), .bool false, .bool false, .bool false, .pointer (some ⟨ea, 0, none⟩), .pointer (some ⟨ea, 0, none⟩), .pointer (some ⟨ea, 0, none⟩), .slice (some ⟨it, 0, none⟩) n n, .int .i64 (n : Int), .int .i64 (n : Int), .bool false, .bool false, .int .i64 (j : Int), .int .i64 (n : Int), .bool true, u147, u148, .pointer (some ⟨ea, 0, none⟩), .pointer (some ⟨ea, 0, none⟩), .pointer (some ⟨ea, 0, none⟩), .slice (some ⟨it, 0, none⟩) n n, .int .i64 (j : Int), .pointer (some ⟨it, j * 2, none⟩), .agg #[.iface (vt j) (.pointer (some ⟨(vb j), 0, none⟩)), .int .i32 (2 * (j : Int))], .slice (some ⟨B1_1, 0, none⟩) n n, .int .i64 (j : Int), .pointer (some ⟨B1_1, j * 2, none⟩), .agg #[.iface (vt j) (.pointer (some ⟨(vb j), 0, none⟩)), .int .i32 (2 * (j : Int))], .bool true, .bool false, .bool false, .pointer (some ⟨ea, 0, none⟩), .pointer (some ⟨ea, 0, none⟩), .pointer (some ⟨ea, 0, none⟩), .slice (some ⟨it, 0, none⟩) n n, .int .i64 (j : Int), .pointer (some ⟨it, j * 2, none⟩), .agg #[.iface (vt j) (.pointer (some ⟨(vb j), 0, none⟩)), .int .i32 (2 * (j : Int))], .agg #[.iface (ut j) (.pointer (some ⟨ub j, 0, none⟩)), .int .i32 (2 * (j : Int))], .slice (some ⟨B1_2, 0, none⟩) n n, .int .i64 (j : Int), .pointer (some ⟨B1_2, j * 2, none⟩), .agg #[.iface (ut j) (.pointer (some ⟨(ub j), 0, none⟩)), .int .i32 (2 * (j : Int))], .bool true, .bool false, .bool false], []⟩ := by rw [← hfr]; kernel_rfl
    clear hfr
    subst hdf
    clear α
    obtain ⟨c9_0_0, c9_0_1, c9_0_2, c9_0_3, c9_0_4, lt9_0, y9_0, -⟩ := hO.k5 0 rfl
    have HO := Lib.hid hO
    clear hO
    go_wp2_with (first | (with_reducible refine Own.stay (fn := Tryd.f6) ?_) | (first | (go_at_call 28; go_in)))
    try with_reducible refine Own.Stay.mk ?_
    have hO := HO.out
    clear HO c9_0_0 c9_0_1 c9_0_2 c9_0_3 c9_0_4 lt9_0 y9_0
    go_roundg gq
    case measure => omega
    case rel => exact ⟨j + 1, by omega, by first | rfl | simp, hO.sub [0, 1, 2, 3] (by decide)⟩
  obtain rfl : gk = 0 := by omega
  obtain rfl : n = j := by omega
  have hlt9 : ¬ (n : Int) < (n : Int) := by omega
  obtain ⟨ix9, hix9, hax9, hjx9⟩ := hO.ix
  have ix9_0 : ix9 ea = 0 := hjx9 0 _ _ rfl
  have ix9_1 : ix9 it = 1 := hjx9 1 _ _ rfl
  have ix9_2 : ix9 B1_1 = 2 := hjx9 2 _ _ rfl
  have ix9_3 : ix9 B1_2 = 3 := hjx9 3 _ _ rfl
  clear hjx9
  obtain ⟨c9_0_0, c9_0_1, c9_0_2, c9_0_3, c9_0_4, lt9_0, y9_0, -⟩ := hO.k5 0 rfl
  have pl9_1 : Base.plainAt wr (it) = true := hO.plain 1 rfl
  have pl9_2 : Base.plainAt wr (B1_1) = true := hO.plain 2 rfl
  have pl9_3 : Base.plainAt wr (B1_2) = true := hO.plain 3 rfl
  have HO := Lib.hid hO
  clear hO
  go_wp2_with (first | (with_reducible refine Own.stay (fn := Tryd.f6) ?_) | (first | (go_at_call 28; go_in)))
  try with_reducible refine Own.Stay.mk ?_
  have hO := HO.out
  clear HO hix9 hax9 ix9_0 ix9_1 ix9_2 ix9_3 ix9 c9_0_0 c9_0_1 c9_0_2 c9_0_3 c9_0_4 lt9_0 y9_0 pl9_1 pl9_2 pl9_3
  exact HP.out _ _ (hO.sub [] (by decide))
end Go.Proofs.YtcbdjbjbikiaeaaDoor.Use
