/- Row 22: the first pass. No condition. -/
import Derived.Test.YtcbdjbjbikiaeaaDoorHb22
import Derived.Test.YtcbdjbjbikiaeaaDoorDarr
import Derived.Test.YtcbdjbjbikiaeaaDoorArhd
import Derived.Test.YtcbdjbjbikiaeaaDoorIta
import Derived.Test.YtcbdjbjbikiaeaaDoorNdt
import Derived.Test.YtcbdjbjbikiaeaaDoorItm
import Derived.Test.YtcbdjbjbikiaeaaDoorOwn
import Derived.Test.YtcbdjbjbikiaeaaDoorOwnK
import Derived.Test.YtcbdjbjbikiaeaaDoorLoop
import Derived.Test.YtcbdjbjbikiaeaaDoorApp
import Derived.Test.YtcbdjbjbikiaeaaDoorDeepCells
import Derived.Test.YtcbdjbjbikiaeaaDoorRows
import Derived.Test.YtcbdjbjbikiaeaaDoorDead
namespace Go.Proofs.YtcbdjbjbikiaeaaDoor.Use
open Go.ChangeShapes Go.WideShapes Go.ChangeAt Go.RowKit Go.Sort Own
set_option linter.unusedVariables false

set_option maxRecDepth 100000 in
set_option maxHeartbeats 4000000 in
theorem fp22f (l r s : Bool) (n : Nat) (nm : ByteArray) (w0 : World) (X : Nat → Obj → Prop) (Q : Exit → Act → World → Prop) (hB : Hb22b l r s n nm w0 X Q) (hlv : l = false) : Hb22a l r s n nm w0 X Q := by
  subst hlv
  have HB := Lib.hid @hB
  clear hB
  unfold Hb22a
  intro pb mp cr ea it ra PC D Y uz0 uz1 uz2 uz3 uz4 uz5 uz6 uz7 uz8 uz9 uz10 uz14 uz17 uz18 uz19 uz20 uz21 uz22 uz23 uz24 uz25 uz26 uz27 uz28 uz29 uz30 uz31 uz32 uz33 uz34 uz35 uz36 uz37 uz38 uz39 uz40 uz41 uz42 uz43 uz44 uz45 uz46 uz47 uz48 uz49 uz50 uz51 uz52 uz53 uz54 uz55 uz56 uz57 uz58 uz59 uz60 uz61 uz62 uz63 uz64 uz65 uz66 uz67 uz68 uz69 uz70 uz71 uz72 uz73 uz74 uz75 uz76 uz77 uz78 uz79 uz80 uz81 uz82 uz83 uz84 uz85 uz86 uz87 uz88 uz89 uz90 uz91 uz92 uz93 uz94 uz95 uz96 uz97 uz98 uz99 uz100 uz101 uz102 uz103 uz104 uz105 uz106 uz107 uz108 uz109 uz110 uz111 uz112 uz113 uz114 uz115 uz116 uz117 uz118 uz119 uz120 uz121 uz122 uz123 uz124 uz125 uz126 uz127 uz128 uz129 uz130 uz131 uz132 uz133 uz134 uz135 uz136 uz137 uz138 uz139 uz140 uz141 uz142 uz143 uz144 uz145 uz146 uz147 uz148 uz149 uz150 uz151 uz152 uz153 uz154 uz155 uz156 uz157 uz158 uz159 uz160 uz161 uz162 uz163 uz164 uz165 uz166 uz167 uz168 uz169 uz170 uz171 uz172 uz173 uz174 uz175 uz176 uz177 w hD hl hn4 hlen hraw hk6 hsp hij hO
  obtain ⟨c9, hc9⟩ : ∃ c, c = rest22b := ⟨_, rfl⟩
  have HC9 := Lib.hid hc9
  simp only [rest22b, Tryd.f6, Option.getD_some, cutC] at hc9
  simp only [rest22a, Tryd.f6, Option.getD_some, cutC]
  rw [← hc9]
  clear hc9
  have H9hraw := Lib.hid hraw
  have H9hk6 := Lib.hid hk6
  have H9hsp := Lib.hid hsp
  have H9hij := Lib.hid hij
  clear hraw hk6 hsp hij
  obtain ⟨c9_2_0, c9_2_1, lt9_2, y9_2, -⟩ := hO.k2 2 rfl
  obtain ⟨c9_3_0, c9_3_1, c9_3_2, c9_3_3, c9_3_4, lt9_3, y9_3, -⟩ := hO.k5 3 rfl
  obtain ⟨c9_5_0, c9_5_1, lt9_5, y9_5, -⟩ := hO.k2 5 rfl
  have HO := Lib.hid hO
  clear hO
  go_wp2_with (first | (with_reducible refine Own.stay (fn := Tryd.f6) ?_) | fail)
  try with_reducible refine Own.Stay.mk ?_
  have hO := HO.out
  clear HO c9_2_0 c9_2_1 lt9_2 y9_2 c9_3_0 c9_3_1 c9_3_2 c9_3_3 c9_3_4 lt9_3 y9_3 c9_5_0 c9_5_1 lt9_5 y9_5
  have hL := hO.apart
  have hX := hO.apartX
  have HL := Lib.hid hL
  have HX := Lib.hid hX
  clear hL hX
  have hP9 := hO.pick [0, 3, 4] (by decide)
  have T9 := darrCold pb PC mp cr r s (- 1) false ea it n (vT1 D 0) (vB1 D (fun _ => 0) 0) _ _ _ hP9 hD hl hn4 (fun i hi => (cold_off hi (H9hraw.out i hi)).1.mono fun b o h => Or.inl h)
  refine Calls.mono T9 ?_
  clear hP9 T9
  rintro e uw1 ⟨rfl, hQ⟩
  have hN : Own w0 uw1 [row (pb) 206 PC, row (ea) 65 #[.slice (some ⟨it, 0, none⟩) n n, .int .i32 0, .int .i32 0, .bool false, .bool false], row (it) 30 (itR (vT1 D 0) (vB1 D (fun _ => 0) 0) n 0), ((mp, .map #[⟨.string ⟨#[95, 95, 115, 117, 112, 101, 114, 87, 114, 97, 112, 112, 101, 114]⟩, .agg #[.int .i32 0, .int .u32 0, .int .u32 2], 0⟩, ⟨.string ⟨#[95, 95, 115, 117, 112, 101, 114, 71, 101, 116]⟩, .agg #[.int .i32 0, .int .u32 0, .int .u32 3], 1⟩, ⟨.string ⟨#[95, 95, 112, 114, 105, 118, 97, 116, 101, 87, 114, 97, 112, 112, 101, 114]⟩, .agg #[.int .i32 0, .int .u32 0, .int .u32 4], 2⟩] 3) : Rw), row (cr) 68 #[.int .u32 0, .int .u32 1], row (ra) 30 #[.iface 62 (.pointer (some ⟨ea, 0, none⟩)), .int .i32 (-1)]] (NodT Y D (fun _ => 0) 0 n) := hQ.back HL.out HX.out [1, 2, 5] (by decide) (by decide)
  clear hQ HL HX hO
  have hO := hN
  clear hN
  obtain ⟨c9_1_0, c9_1_1, c9_1_2, c9_1_3, c9_1_4, lt9_1, y9_1, -⟩ := hO.k5 1 rfl
  obtain ⟨c9_4_0, c9_4_1, lt9_4, y9_4, -⟩ := hO.k2 4 rfl
  obtain ⟨c9_5_0, c9_5_1, lt9_5, y9_5, -⟩ := hO.k2 5 rfl
  have HO := Lib.hid hO
  clear hO
  go_wp2_with (first | (with_reducible refine Own.stay (fn := Tryd.f6) ?_) | fail)
  try with_reducible refine Own.Stay.mk ?_
  have hO := HO.out
  clear HO c9_1_0 c9_1_1 c9_1_2 c9_1_3 c9_1_4 lt9_1 y9_1 c9_4_0 c9_4_1 lt9_4 y9_4 c9_5_0 c9_5_1 lt9_5 y9_5
  generalize hW : World.alloc _ _ = W3
  have hN : Own w0 W3 [row (uw1.heap.size) 30 #[.iface 62 (.pointer (some ⟨ea, 0, none⟩)), .int .i32 (-1)], row (pb) 206 PC, row (ea) 65 #[.slice (some ⟨it, 0, none⟩) n n, .int .i32 0, .int .i32 0, .bool false, .bool false], row (it) 30 (itR (vT1 D 0) (vB1 D (fun _ => 0) 0) n 0), ((mp, .map #[⟨.string ⟨#[95, 95, 115, 117, 112, 101, 114, 87, 114, 97, 112, 112, 101, 114]⟩, .agg #[.int .i32 0, .int .u32 0, .int .u32 2], 0⟩, ⟨.string ⟨#[95, 95, 115, 117, 112, 101, 114, 71, 101, 116]⟩, .agg #[.int .i32 0, .int .u32 0, .int .u32 3], 1⟩, ⟨.string ⟨#[95, 95, 112, 114, 105, 118, 97, 116, 101, 87, 114, 97, 112, 112, 101, 114]⟩, .agg #[.int .i32 0, .int .u32 0, .int .u32 4], 2⟩] 3) : Rw), row (cr) 68 #[.int .u32 0, .int .u32 1], row (ra) 30 #[.iface 62 (.pointer (some ⟨ea, 0, none⟩)), .int .i32 (-1)]] (NodT Y D (fun _ => 0) 0 n) := by
    rw [← hW]
    exact (hO).alloc' _ (uw1.heap.size) (by simp)
  clear hW hO
  generalize uw1.heap.size = B2 at hN ⊢
  have hO := hN
  clear hN
  rw [HC9.out]
  exact HB.out pb mp cr ea it ra B2 PC (vT1 D 0) (vB1 D (fun _ => 0) 0) (fun i => t2 D (vT1 D 0 i) i) (fun i => b2 D (D.inn i) (vB1 D (fun _ => 0) 0 i) i) (NodT Y D (fun _ => 0) 0 n) hD hl hn4 hlen (fun i hi => (cold_off hi (H9hraw.out i hi)).1) (fun i hi => (cold_off hi (H9hraw.out i hi)).2) (hO.sub [1, 2, 3, 0] (by decide))
end Go.Proofs.YtcbdjbjbikiaeaaDoor.Use
