/- Row 22: the law up to its first pass. No condition. -/
import Derived.Test.YtcbdjbjbikiaeaaDoorHb22
import Derived.Test.YtcbdjbjbikiaeaaDoorBld22
import Derived.Test.YtcbdjbjbikiaeaaDoorNewL
import Derived.Test.YtcbdjbjbikiaeaaDoorAsn
import Derived.Test.YtcbdjbjbikiaeaaDoorArhd
import Derived.Test.YtcbdjbjbikiaeaaDoorIta
import Derived.Test.YtcbdjbjbikiaeaaDoorNdt
import Derived.Test.YtcbdjbjbikiaeaaDoorItm
import Derived.Test.YtcbdjbjbikiaeaaDoorOwn
import Derived.Test.YtcbdjbjbikiaeaaDoorOwnK
import Derived.Test.YtcbdjbjbikiaeaaDoorLoop
import Derived.Test.YtcbdjbjbikiaeaaDoorApp
import Derived.Test.YtcbdjbjbikiaeaaDoorDeepCells
import Derived.Test.YtcbdjbjbikiaeaaDoorRows
import Derived.Test.YtcbdjbjbikiaeaaDoorDead
namespace Go.Proofs.YtcbdjbjbikiaeaaDoor.Use
open Go.ChangeShapes Go.WideShapes Go.ChangeAt Go.RowKit Go.Sort Own
set_option linter.unusedVariables false

set_option maxRecDepth 100000 in
set_option maxHeartbeats 4000000 in
theorem hd22 (sa : Option Addr) (x : Addr) (cp : Nat) (U : Nat → Nat) (l r s : Bool) (n : Nat) (nm : ByteArray) (w0 w : World) (X : Nat → Obj → Prop) (Post : Ending → World → Prop) (hP : ∀ (w3 : World) (Y : Nat → Obj → Prop), Own w0 w3 [] Y → Post (.returned (.bool true)) w3) (hB : Hb22a l r s n nm w0 X (bodyPost Tryd.prog Tryd.f6 Post)) (hO : Own w0 w [] X) (hn4 : n ≤ 4096) (hnm : nm.size ≤ 4096) (hU : ∀ i : Nat, i < n → U i < 256) (hs : 0 < n → sa = some x) (hk : ∀ i : Nat, i < n → w0.cell? (x.add i) = some (.int .u8 (U i : Int))) :
    Calls Tryd.prog 6 #[.bool l, .bool r, .bool s, .slice sa n cp, .string nm] w Post := by
  go_enter Tryd.func6, Tryd.ntmps6
  have HP := Lib.hid hP
  have HB := Lib.hid @hB
  have HK := Lib.hid hk
  have HU := Lib.hid hU
  have HS := Lib.hid hs
  clear hP hB hk hU hs
  obtain ⟨c9, hc9⟩ : ∃ c, c = rest22a := ⟨_, rfl⟩
  have HC9 := Lib.hid hc9
  simp only [rest22a, Tryd.f6, Option.getD_some, cutC] at hc9
  rw [← hc9]
  clear hc9
  have hn9 : (n : Int) ≤ 4096 := by omega
  have hn8 : (0 : Int) ≤ (n : Int) := by omega
  have hm9 : (nm.size : Int) ≤ 4096 := by omega
  have hm8 : (0 : Int) ≤ (nm.size : Int) := by omega
  have hms := makeExps n (by omega)
  go_wp2_with (first | (with_reducible refine Own.stay (fn := Tryd.f6) ?_) | (first | (go_at_call 25; go_in) | (go_at_call 27; go_in) | (go_at_call 28; go_in)))
  try with_reducible refine Own.Stay.mk ?_
  have hL := hO.apart
  have hX := hO.apartX
  have HL := Lib.hid hL
  have HX := Lib.hid hX
  clear hL hX
  have hP9 := hO.pick [] (by decide)
  have T9 := newDeadL l r s _ _ _ hP9 
  refine Calls.mono T9 ?_
  clear hP9 T9
  rintro e uw1 ⟨nd2, nd3, nd4, nd5, rfl, pr6, pr7, hQ⟩
  have hN : Own w0 uw1 [row (nd2) 206 nd5, ((nd3, .map #[⟨.string ⟨#[95, 95, 115, 117, 112, 101, 114, 87, 114, 97, 112, 112, 101, 114]⟩, .agg #[.int .i32 0, .int .u32 0, .int .u32 2], 0⟩, ⟨.string ⟨#[95, 95, 115, 117, 112, 101, 114, 71, 101, 116]⟩, .agg #[.int .i32 0, .int .u32 0, .int .u32 3], 1⟩, ⟨.string ⟨#[95, 95, 112, 114, 105, 118, 97, 116, 101, 87, 114, 97, 112, 112, 101, 114]⟩, .agg #[.int .i32 0, .int .u32 0, .int .u32 4], 2⟩] 3) : Rw), row (nd4) 68 #[.int .u32 0, .int .u32 1]] X := hQ.back HL.out HX.out [] (by decide) (by decide)
  clear hQ HL HX hO
  have hO := hN
  clear hN
  obtain ⟨c9_2_0, c9_2_1, lt9_2, y9_2, -⟩ := hO.k2 2 rfl
  have HO := Lib.hid hO
  clear hO
  go_wp2_with (first | (with_reducible refine Own.stay (fn := Tryd.f6) ?_) | (first | (go_at_call 25; go_in) | (go_at_call 27; go_in) | (go_at_call 28; go_in)))
  try with_reducible refine Own.Stay.mk ?_
  have hO := HO.out
  clear HO c9_2_0 c9_2_1 lt9_2 y9_2
  generalize hW : World.alloc _ _ = W9
  have hN : Own w0 W9 [row (uw1.heap.size) 30 (full expZ [] n), row (nd2) 206 nd5, ((nd3, .map #[⟨.string ⟨#[95, 95, 115, 117, 112, 101, 114, 87, 114, 97, 112, 112, 101, 114]⟩, .agg #[.int .i32 0, .int .u32 0, .int .u32 2], 0⟩, ⟨.string ⟨#[95, 95, 115, 117, 112, 101, 114, 71, 101, 116]⟩, .agg #[.int .i32 0, .int .u32 0, .int .u32 3], 1⟩, ⟨.string ⟨#[95, 95, 112, 114, 105, 118, 97, 116, 101, 87, 114, 97, 112, 112, 101, 114]⟩, .agg #[.int .i32 0, .int .u32 0, .int .u32 4], 2⟩] 3) : Rw), row (nd4) 68 #[.int .u32 0, .int .u32 1]] X := by
    rw [← hW]
    exact (hO).alloc' _ (uw1.heap.size) (by simp)
  clear hW hO
  generalize uw1.heap.size = B8 at hN ⊢
  have hO := hN
  clear hN
  go_loopg [14] n (fun gf s14 wx => ∃ (i : Nat) (D : Dm) (Y : Nat → Obj → Prop), i + gf = n ∧ s14 = .int .i64 (i : Int) ∧ D.kd = (fun j => U j % 6) ∧ (∀ j : Nat, j < i → RawI Y D nm j) ∧ SepT Y D i ∧ InjT D i ∧ Own w0 wx [row (nd2) 206 nd5, ((nd3, .map #[⟨.string ⟨#[95, 95, 115, 117, 112, 101, 114, 87, 114, 97, 112, 112, 101, 114]⟩, .agg #[.int .i32 0, .int .u32 0, .int .u32 2], 0⟩, ⟨.string ⟨#[95, 95, 115, 117, 112, 101, 114, 71, 101, 116]⟩, .agg #[.int .i32 0, .int .u32 0, .int .u32 3], 1⟩, ⟨.string ⟨#[95, 95, 112, 114, 105, 118, 97, 116, 101, 87, 114, 97, 112, 112, 101, 114]⟩, .agg #[.int .i32 0, .int .u32 0, .int .u32 4], 2⟩] 3) : Rw), row (nd4) 68 #[.int .u32 0, .int .u32 1], row (B8) 30 (itR (vT1 D 0) (vB1 D (fun _ => 0) 0) i gf)] (NodT Y D (fun _ => 0) 0 i))
  case atStart => exact ⟨0, ⟨fun j => U j % 6, fun _ => 0, fun _ => 0, fun _ => 0⟩, fun _ _ => False, by omega, rfl, rfl, fun j hj => absurd hj (Nat.not_lt_zero j), fun _ _ h => h.elim, fun j _ hj => absurd hj (Nat.not_lt_zero j), ((hO.sub [1, 2, 3, 0] (by decide)).weaken (Y := NodT (fun _ _ => False) _ _ 0 0) (fun b o h => h.elim False.elim fun ⟨j, hj, _⟩ => absurd hj (Nat.not_lt_zero j))).conv rfl⟩
  obtain ⟨i, D, Y, hin, rfl, hkd, hraw, hsp, hij, hO⟩ := hrel
  by_cases hlt : i < n
  · skip
    obtain ⟨gq, rfl⟩ : ∃ gq, gk = gq + 1 := ⟨gk - 1, by omega⟩
    have hlt9 : (i : Int) < (n : Int) := by omega
    have hi8 : (0 : Int) ≤ (i : Int) := by omega
    have hi7 : (i : Int) ≤ 4096 := by omega
    obtain rfl := HS.out (by omega)
    have ho2 : wr.cell? (x.add i) = some (.int .u8 (U i : Int)) := cell_belowA hO.below (HK.out i hlt)
    have hu9 := HU.out i hlt
    have hu8 : (U i : Int) < 256 := by omega
    have hu7 : (0 : Int) ≤ (U i : Int) := by omega
    have HKD := Lib.hid hkd
    have HRW := Lib.hid hraw
    have HSP := Lib.hid hsp
    have HIJ := Lib.hid hij
    clear hkd hraw hsp hij
    have hw1 : IntKind.i32.wrap (2 * (i : Int)) = (2 * (i : Int)) := by rw [IntKind.wrap_i32]; omega
    have hw2 : IntKind.i32.wrap (2 * (i : Int) + 1) = (2 * (i : Int) + 1) := by rw [IntKind.wrap_i32]; omega
    have hw3 : IntKind.i64.wrap (2 * (i : Int)) = (2 * (i : Int)) := by rw [IntKind.wrap_i64]; omega
    have hw4 : IntKind.i64.wrap (2 * (i : Int) + 1) = (2 * (i : Int) + 1) := by rw [IntKind.wrap_i64]; omega
    by_cases hkm : U i % 6 = 0
    · skip
      have hrm : (U i : Int).tmod 6 = 0 := by have h9 : (U i : Int).tmod 6 = ((U i % 6 : Nat) : Int) := rfl; rw [h9]; omega
      have HRM := Lib.hid hrm
      clear hrm
      have hkq : D.kd i = 0 := by rw [HKD.out]; exact hkm
      have HKQ := Lib.hid hkq
      have HKM := Lib.hid hkm
      clear hkq hkm
      obtain ⟨c9_2_0, c9_2_1, lt9_2, y9_2, -⟩ := hO.k2 2 rfl
      have HO := Lib.hid hO
      clear hO
      go_wp2_with (first | (with_reducible refine Own.stay (fn := Tryd.f6) ?_) | (first | (go_at_call 25; go_in) | (go_at_call 27; go_in) | (go_at_call 28; go_in)))
      try with_reducible refine Own.Stay.mk ?_
      have hO := HO.out
      clear HO c9_2_0 c9_2_1 lt9_2 y9_2
      have hL := hO.apart
      have hX := hO.apartX
      have HL := Lib.hid hL
      have HX := Lib.hid hX
      clear hL hX
      have hP9 := hO.pick [] (by decide)
      have h9_hk0 : ((U i : Int).tmod 6 == 0) = true := (by rw [HRM.out]; rfl)
      have T9 := asn0 (U i : Int) (2 * (i : Int)) (2 * (i : Int) + 1) nm _ _ _ hP9 h9_hk0
      refine Calls.mono T9 ?_
      clear hP9 T9 h9_hk0
      rintro e uw10 ⟨nd11, nd12, rfl, hQ⟩
      have hN : Own w0 uw10 [row (nd11) 44 #[.iface 244 (.pointer (some ⟨nd12, 0, none⟩)), .int .i32 (2 * (i : Int)), .string nm, .int .i32 (2 * (i : Int) + 1), .int .u8 0, .bool false, .bool false, .bool false], row (nd2) 206 nd5, ((nd3, .map #[⟨.string ⟨#[95, 95, 115, 117, 112, 101, 114, 87, 114, 97, 112, 112, 101, 114]⟩, .agg #[.int .i32 0, .int .u32 0, .int .u32 2], 0⟩, ⟨.string ⟨#[95, 95, 115, 117, 112, 101, 114, 71, 101, 116]⟩, .agg #[.int .i32 0, .int .u32 0, .int .u32 3], 1⟩, ⟨.string ⟨#[95, 95, 112, 114, 105, 118, 97, 116, 101, 87, 114, 97, 112, 112, 101, 114]⟩, .agg #[.int .i32 0, .int .u32 0, .int .u32 4], 2⟩] 3) : Rw), row (nd4) 68 #[.int .u32 0, .int .u32 1], row (B8) 30 (itR (vT1 D 0) (vB1 D (fun _ => 0) 0) i (gq + 1))] (NodT Y D (fun _ => 0) 0 i) := hQ.back HL.out HX.out [0, 1, 2, 3] (by decide) (by decide)
      clear hQ HL HX hO
      have hO := hN
      clear hN
      obtain ⟨ix9, hix9, hax9, hjx9⟩ := hO.ix
      have ix9_0 : ix9 nd11 = 0 := hjx9 0 _ _ rfl
      have ix9_1 : ix9 nd2 = 1 := hjx9 1 _ _ rfl
      have ix9_2 : ix9 nd3 = 2 := hjx9 2 _ _ rfl
      have ix9_3 : ix9 nd4 = 3 := hjx9 3 _ _ rfl
      have ix9_4 : ix9 B8 = 4 := hjx9 4 _ _ rfl
      clear hjx9
      obtain ⟨c9_0_0, c9_0_1, c9_0_2, c9_0_3, c9_0_4, c9_0_5, c9_0_6, c9_0_7, lt9_0, y9_0, -⟩ := hO.k8 0 rfl
      obtain ⟨c9_3_0, c9_3_1, lt9_3, y9_3, -⟩ := hO.k2 3 rfl
      have c9_4_i_2 : uw10.cell? ⟨B8, i * 2, none⟩ = some (.nilIface) := hO.cell 4 rfl (i * 2) (itR_z0)
      have c9_4_i_2_1 : uw10.cell? ⟨B8, i * 2 + 1, none⟩ = some (.int .i32 0) := hO.cell 4 rfl (i * 2 + 1) (itR_z1)
      have lt9_4 : B8 < uw10.heap.size := hO.lt 4 rfl
      have y9_4 : ∀ o, uw10.frozen? ⟨B8, o, none⟩ = false := hO.free 4 rfl
      have HO := Lib.hid hO
      clear hO
      go_wp2_with (first | (with_reducible refine Own.stay (fn := Tryd.f6) ?_) | (first | (go_at_call 25; go_in) | (go_at_call 27; go_in) | (go_at_call 28; go_in)))
      try with_reducible refine Own.Stay.mk ?_
      have hO := HO.out
      clear HO hix9 hax9 ix9_0 ix9_1 ix9_2 ix9_3 ix9_4 ix9 c9_0_0 c9_0_1 c9_0_2 c9_0_3 c9_0_4 c9_0_5 c9_0_6 c9_0_7 lt9_0 y9_0 c9_3_0 c9_3_1 lt9_3 y9_3 c9_4_i_2 c9_4_i_2_1 lt9_4 y9_4
      generalize hW : World.setCell _ _ _ = W14
      have hN : Own w0 W14 [row (nd11) 44 #[.iface 244 (.pointer (some ⟨nd12, 0, none⟩)), .int .i32 (2 * (i : Int)), .string nm, .int .i32 (2 * (i : Int) + 1), .int .u8 0, .bool false, .bool false, .bool false], row (nd2) 206 nd5, ((nd3, .map #[⟨.string ⟨#[95, 95, 115, 117, 112, 101, 114, 87, 114, 97, 112, 112, 101, 114]⟩, .agg #[.int .i32 0, .int .u32 0, .int .u32 2], 0⟩, ⟨.string ⟨#[95, 95, 115, 117, 112, 101, 114, 71, 101, 116]⟩, .agg #[.int .i32 0, .int .u32 0, .int .u32 3], 1⟩, ⟨.string ⟨#[95, 95, 112, 114, 105, 118, 97, 116, 101, 87, 114, 97, 112, 112, 101, 114]⟩, .agg #[.int .i32 0, .int .u32 0, .int .u32 4], 2⟩] 3) : Rw), row (nd4) 68 #[.int .u32 0, .int .u32 1], row (B8) 30 (((itR (vT1 D 0) (vB1 D (fun _ => 0) 0) i (gq + 1)).setIfInBounds (i * 2) (.iface 40 (.pointer (some ⟨nd11, 0, none⟩)))).setIfInBounds (i * 2 + 1) (.int .i32 (2 * (i : Int))))] (NodT Y D (fun _ => 0) 0 i) := by
        rw [← hW]
        exact ((hO).set 4 rfl (i * 2) _).set 4 rfl (i * 2 + 1) _
      clear hW hO
      have hO := hN
      clear hN
      have hN : Own w0 W14 [row (nd11) 44 #[.iface 244 (.pointer (some ⟨nd12, 0, none⟩)), .int .i32 (2 * (i : Int)), .string nm, .int .i32 (2 * (i : Int) + 1), .int .u8 0, .bool false, .bool false, .bool false], row (nd2) 206 nd5, ((nd3, .map #[⟨.string ⟨#[95, 95, 115, 117, 112, 101, 114, 87, 114, 97, 112, 112, 101, 114]⟩, .agg #[.int .i32 0, .int .u32 0, .int .u32 2], 0⟩, ⟨.string ⟨#[95, 95, 115, 117, 112, 101, 114, 71, 101, 116]⟩, .agg #[.int .i32 0, .int .u32 0, .int .u32 3], 1⟩, ⟨.string ⟨#[95, 95, 112, 114, 105, 118, 97, 116, 101, 87, 114, 97, 112, 112, 101, 114]⟩, .agg #[.int .i32 0, .int .u32 0, .int .u32 4], 2⟩] 3) : Rw), row (nd4) 68 #[.int .u32 0, .int .u32 1], row (B8) 30 (itR (vT1 (updM D i nd11 0 0) 0) (vB1 (updM D i nd11 0 0) (fun _ => 0) 0) (i + 1) gq)] (NodT Y D (fun _ => 0) 0 i) := (hO.sub [0, 1, 2, 3, 4] (by decide)).conv (by
        rw [← it_upd (D := D) (i := i) (g := gq) (a := nd11) (b := 0) (c := 0) (t := 40) (by rw [HKQ.out]; rfl)]
        rfl)
      obtain ⟨h1, h2, h3⟩ := NodT.skip (updM_same D i nd11 0 0) (show ¬ isT (updM D i nd11 0 0) i from by unfold isT; rw [show (updM D i nd11 0 0).kd i = 0 from HKQ.out]; decide) hN HSP.out HIJ.out
      obtain ⟨g0, k0⟩ := NodT.addS h1 h2
      go_roundg gq
      case measure => omega
      case rel => exact ⟨i + 1, (updM D i nd11 0 0), _, by omega, by first | rfl | simp, HKD.out, fun j hj => by
        by_cases e : j = i
        · subst e
          exact Or.inl ⟨HKQ.out, nd12, by rw [(show (updM D j nd11 0 0).nd j = nd11 from updN_self)]; exact addX_r⟩
        · exact (RawI.same (updM_same D i nd11 0 0) (by omega) (HRW.out j (by omega))).mono (addX_l), k0, h3, g0⟩
    have HN0 := Lib.hid hkm
    clear hkm
    by_cases hkm : U i % 6 = 1
    · skip
      have hrm : (U i : Int).tmod 6 = 1 := by have h9 : (U i : Int).tmod 6 = ((U i % 6 : Nat) : Int) := rfl; rw [h9]; omega
      have HRM := Lib.hid hrm
      clear hrm
      have hkq : D.kd i = 1 := by rw [HKD.out]; exact hkm
      have HKQ := Lib.hid hkq
      have HKM := Lib.hid hkm
      clear hkq hkm
      obtain ⟨c9_2_0, c9_2_1, lt9_2, y9_2, -⟩ := hO.k2 2 rfl
      have HO := Lib.hid hO
      clear hO
      go_wp2_with (first | (with_reducible refine Own.stay (fn := Tryd.f6) ?_) | (first | (go_at_call 25; go_in) | (go_at_call 27; go_in) | (go_at_call 28; go_in)))
      try with_reducible refine Own.Stay.mk ?_
      have hO := HO.out
      clear HO c9_2_0 c9_2_1 lt9_2 y9_2
      have hL := hO.apart
      have hX := hO.apartX
      have HL := Lib.hid hL
      have HX := Lib.hid hX
      clear hL hX
      have hP9 := hO.pick [] (by decide)
      have h9_hk0 : ((U i : Int).tmod 6 == 0) = false := (by rw [HRM.out]; rfl)
      have h9_hk1 : ((U i : Int).tmod 6 == 1) = true := (by rw [HRM.out]; rfl)
      have T9 := asn1 (U i : Int) (2 * (i : Int)) (2 * (i : Int) + 1) nm _ _ _ hP9 h9_hk0 h9_hk1
      refine Calls.mono T9 ?_
      clear hP9 T9 h9_hk0 h9_hk1
      rintro e uw15 ⟨nd16, nd17, nd18, rfl, hQ⟩
      have hN : Own w0 uw15 [row (nd16) 211 #[.iface 244 (.pointer (some ⟨nd17, 0, none⟩)), .int .i32 (2 * (i : Int)), .iface 220 (.pointer (some ⟨nd18, 0, none⟩)), .int .i32 (2 * (i : Int) + 1), .int .i32 0, .int .u8 0, .bool false, .bool false, .bool false], row (nd2) 206 nd5, ((nd3, .map #[⟨.string ⟨#[95, 95, 115, 117, 112, 101, 114, 87, 114, 97, 112, 112, 101, 114]⟩, .agg #[.int .i32 0, .int .u32 0, .int .u32 2], 0⟩, ⟨.string ⟨#[95, 95, 115, 117, 112, 101, 114, 71, 101, 116]⟩, .agg #[.int .i32 0, .int .u32 0, .int .u32 3], 1⟩, ⟨.string ⟨#[95, 95, 112, 114, 105, 118, 97, 116, 101, 87, 114, 97, 112, 112, 101, 114]⟩, .agg #[.int .i32 0, .int .u32 0, .int .u32 4], 2⟩] 3) : Rw), row (nd4) 68 #[.int .u32 0, .int .u32 1], row (B8) 30 (itR (vT1 D 0) (vB1 D (fun _ => 0) 0) i (gq + 1))] (NodT Y D (fun _ => 0) 0 i) := hQ.back HL.out HX.out [0, 1, 2, 3] (by decide) (by decide)
      clear hQ HL HX hO
      have hO := hN
      clear hN
      obtain ⟨ix9, hix9, hax9, hjx9⟩ := hO.ix
      have ix9_0 : ix9 nd16 = 0 := hjx9 0 _ _ rfl
      have ix9_1 : ix9 nd2 = 1 := hjx9 1 _ _ rfl
      have ix9_2 : ix9 nd3 = 2 := hjx9 2 _ _ rfl
      have ix9_3 : ix9 nd4 = 3 := hjx9 3 _ _ rfl
      have ix9_4 : ix9 B8 = 4 := hjx9 4 _ _ rfl
      clear hjx9
      obtain ⟨c9_0_0, c9_0_1, c9_0_2, c9_0_3, c9_0_4, c9_0_5, c9_0_6, c9_0_7, c9_0_8, lt9_0, y9_0, -⟩ := hO.k9 0 rfl
      obtain ⟨c9_3_0, c9_3_1, lt9_3, y9_3, -⟩ := hO.k2 3 rfl
      have c9_4_i_2 : uw15.cell? ⟨B8, i * 2, none⟩ = some (.nilIface) := hO.cell 4 rfl (i * 2) (itR_z0)
      have c9_4_i_2_1 : uw15.cell? ⟨B8, i * 2 + 1, none⟩ = some (.int .i32 0) := hO.cell 4 rfl (i * 2 + 1) (itR_z1)
      have lt9_4 : B8 < uw15.heap.size := hO.lt 4 rfl
      have y9_4 : ∀ o, uw15.frozen? ⟨B8, o, none⟩ = false := hO.free 4 rfl
      have HO := Lib.hid hO
      clear hO
      go_wp2_with (first | (with_reducible refine Own.stay (fn := Tryd.f6) ?_) | (first | (go_at_call 25; go_in) | (go_at_call 27; go_in) | (go_at_call 28; go_in)))
      try with_reducible refine Own.Stay.mk ?_
      have hO := HO.out
      clear HO hix9 hax9 ix9_0 ix9_1 ix9_2 ix9_3 ix9_4 ix9 c9_0_0 c9_0_1 c9_0_2 c9_0_3 c9_0_4 c9_0_5 c9_0_6 c9_0_7 c9_0_8 lt9_0 y9_0 c9_3_0 c9_3_1 lt9_3 y9_3 c9_4_i_2 c9_4_i_2_1 lt9_4 y9_4
      generalize hW : World.setCell _ _ _ = W20
      have hN : Own w0 W20 [row (nd16) 211 #[.iface 244 (.pointer (some ⟨nd17, 0, none⟩)), .int .i32 (2 * (i : Int)), .iface 220 (.pointer (some ⟨nd18, 0, none⟩)), .int .i32 (2 * (i : Int) + 1), .int .i32 0, .int .u8 0, .bool false, .bool false, .bool false], row (nd2) 206 nd5, ((nd3, .map #[⟨.string ⟨#[95, 95, 115, 117, 112, 101, 114, 87, 114, 97, 112, 112, 101, 114]⟩, .agg #[.int .i32 0, .int .u32 0, .int .u32 2], 0⟩, ⟨.string ⟨#[95, 95, 115, 117, 112, 101, 114, 71, 101, 116]⟩, .agg #[.int .i32 0, .int .u32 0, .int .u32 3], 1⟩, ⟨.string ⟨#[95, 95, 112, 114, 105, 118, 97, 116, 101, 87, 114, 97, 112, 112, 101, 114]⟩, .agg #[.int .i32 0, .int .u32 0, .int .u32 4], 2⟩] 3) : Rw), row (nd4) 68 #[.int .u32 0, .int .u32 1], row (B8) 30 (((itR (vT1 D 0) (vB1 D (fun _ => 0) 0) i (gq + 1)).setIfInBounds (i * 2) (.iface 209 (.pointer (some ⟨nd16, 0, none⟩)))).setIfInBounds (i * 2 + 1) (.int .i32 (2 * (i : Int))))] (NodT Y D (fun _ => 0) 0 i) := by
        rw [← hW]
        exact ((hO).set 4 rfl (i * 2) _).set 4 rfl (i * 2 + 1) _
      clear hW hO
      have hO := hN
      clear hN
      have hN : Own w0 W20 [row (nd16) 211 #[.iface 244 (.pointer (some ⟨nd17, 0, none⟩)), .int .i32 (2 * (i : Int)), .iface 220 (.pointer (some ⟨nd18, 0, none⟩)), .int .i32 (2 * (i : Int) + 1), .int .i32 0, .int .u8 0, .bool false, .bool false, .bool false], row (nd2) 206 nd5, ((nd3, .map #[⟨.string ⟨#[95, 95, 115, 117, 112, 101, 114, 87, 114, 97, 112, 112, 101, 114]⟩, .agg #[.int .i32 0, .int .u32 0, .int .u32 2], 0⟩, ⟨.string ⟨#[95, 95, 115, 117, 112, 101, 114, 71, 101, 116]⟩, .agg #[.int .i32 0, .int .u32 0, .int .u32 3], 1⟩, ⟨.string ⟨#[95, 95, 112, 114, 105, 118, 97, 116, 101, 87, 114, 97, 112, 112, 101, 114]⟩, .agg #[.int .i32 0, .int .u32 0, .int .u32 4], 2⟩] 3) : Rw), row (nd4) 68 #[.int .u32 0, .int .u32 1], row (B8) 30 (itR (vT1 (updM D i nd16 0 0) 0) (vB1 (updM D i nd16 0 0) (fun _ => 0) 0) (i + 1) gq)] (NodT Y D (fun _ => 0) 0 i) := (hO.sub [0, 1, 2, 3, 4] (by decide)).conv (by
        rw [← it_upd (D := D) (i := i) (g := gq) (a := nd16) (b := 0) (c := 0) (t := 209) (by rw [HKQ.out]; rfl)]
        rfl)
      obtain ⟨h1, h2, h3⟩ := NodT.skip (updM_same D i nd16 0 0) (show ¬ isT (updM D i nd16 0 0) i from by unfold isT; rw [show (updM D i nd16 0 0).kd i = 1 from HKQ.out]; decide) hN HSP.out HIJ.out
      obtain ⟨g0, k0⟩ := NodT.addS h1 h2
      go_roundg gq
      case measure => omega
      case rel => exact ⟨i + 1, (updM D i nd16 0 0), _, by omega, by first | rfl | simp, HKD.out, fun j hj => by
        by_cases e : j = i
        · subst e
          exact Or.inr (Or.inl ⟨HKQ.out, nd17, nd18, by rw [(show (updM D j nd16 0 0).nd j = nd16 from updN_self)]; exact addX_r⟩)
        · exact (RawI.same (updM_same D i nd16 0 0) (by omega) (HRW.out j (by omega))).mono (addX_l), k0, h3, g0⟩
    have HN1 := Lib.hid hkm
    clear hkm
    by_cases hkm : U i % 6 = 2
    · skip
      have hrm : (U i : Int).tmod 6 = 2 := by have h9 : (U i : Int).tmod 6 = ((U i % 6 : Nat) : Int) := rfl; rw [h9]; omega
      have HRM := Lib.hid hrm
      clear hrm
      have hkq : D.kd i = 2 := by rw [HKD.out]; exact hkm
      have HKQ := Lib.hid hkq
      have HKM := Lib.hid hkm
      clear hkq hkm
      obtain ⟨c9_2_0, c9_2_1, lt9_2, y9_2, -⟩ := hO.k2 2 rfl
      have HO := Lib.hid hO
      clear hO
      go_wp2_with (first | (with_reducible refine Own.stay (fn := Tryd.f6) ?_) | (first | (go_at_call 25; go_in) | (go_at_call 27; go_in) | (go_at_call 28; go_in)))
      try with_reducible refine Own.Stay.mk ?_
      have hO := HO.out
      clear HO c9_2_0 c9_2_1 lt9_2 y9_2
      have hL := hO.apart
      have hX := hO.apartX
      have HL := Lib.hid hL
      have HX := Lib.hid hX
      clear hL hX
      have hP9 := hO.pick [] (by decide)
      have h9_hk0 : ((U i : Int).tmod 6 == 0) = false := (by rw [HRM.out]; rfl)
      have h9_hk1 : ((U i : Int).tmod 6 == 1) = false := (by rw [HRM.out]; rfl)
      have h9_hk2 : ((U i : Int).tmod 6 == 2) = true := (by rw [HRM.out]; rfl)
      have T9 := asn2 (U i : Int) (2 * (i : Int)) (2 * (i : Int) + 1) nm _ _ _ hP9 h9_hk0 h9_hk1 h9_hk2
      refine Calls.mono T9 ?_
      clear hP9 T9 h9_hk0 h9_hk1 h9_hk2
      rintro e uw21 ⟨nd22, nd23, rfl, hQ⟩
      have hN : Own w0 uw21 [row (nd22) 44 #[.iface 220 (.pointer (some ⟨nd23, 0, none⟩)), .int .i32 (2 * (i : Int)), .string nm, .int .i32 (2 * (i : Int) + 1), .int .u8 0, .bool false, .bool false, .bool false], row (nd2) 206 nd5, ((nd3, .map #[⟨.string ⟨#[95, 95, 115, 117, 112, 101, 114, 87, 114, 97, 112, 112, 101, 114]⟩, .agg #[.int .i32 0, .int .u32 0, .int .u32 2], 0⟩, ⟨.string ⟨#[95, 95, 115, 117, 112, 101, 114, 71, 101, 116]⟩, .agg #[.int .i32 0, .int .u32 0, .int .u32 3], 1⟩, ⟨.string ⟨#[95, 95, 112, 114, 105, 118, 97, 116, 101, 87, 114, 97, 112, 112, 101, 114]⟩, .agg #[.int .i32 0, .int .u32 0, .int .u32 4], 2⟩] 3) : Rw), row (nd4) 68 #[.int .u32 0, .int .u32 1], row (B8) 30 (itR (vT1 D 0) (vB1 D (fun _ => 0) 0) i (gq + 1))] (NodT Y D (fun _ => 0) 0 i) := hQ.back HL.out HX.out [0, 1, 2, 3] (by decide) (by decide)
      clear hQ HL HX hO
      have hO := hN
      clear hN
      obtain ⟨ix9, hix9, hax9, hjx9⟩ := hO.ix
      have ix9_0 : ix9 nd22 = 0 := hjx9 0 _ _ rfl
      have ix9_1 : ix9 nd2 = 1 := hjx9 1 _ _ rfl
      have ix9_2 : ix9 nd3 = 2 := hjx9 2 _ _ rfl
      have ix9_3 : ix9 nd4 = 3 := hjx9 3 _ _ rfl
      have ix9_4 : ix9 B8 = 4 := hjx9 4 _ _ rfl
      clear hjx9
      obtain ⟨c9_0_0, c9_0_1, c9_0_2, c9_0_3, c9_0_4, c9_0_5, c9_0_6, c9_0_7, lt9_0, y9_0, -⟩ := hO.k8 0 rfl
      obtain ⟨c9_3_0, c9_3_1, lt9_3, y9_3, -⟩ := hO.k2 3 rfl
      have c9_4_i_2 : uw21.cell? ⟨B8, i * 2, none⟩ = some (.nilIface) := hO.cell 4 rfl (i * 2) (itR_z0)
      have c9_4_i_2_1 : uw21.cell? ⟨B8, i * 2 + 1, none⟩ = some (.int .i32 0) := hO.cell 4 rfl (i * 2 + 1) (itR_z1)
      have lt9_4 : B8 < uw21.heap.size := hO.lt 4 rfl
      have y9_4 : ∀ o, uw21.frozen? ⟨B8, o, none⟩ = false := hO.free 4 rfl
      have HO := Lib.hid hO
      clear hO
      go_wp2_with (first | (with_reducible refine Own.stay (fn := Tryd.f6) ?_) | (first | (go_at_call 25; go_in) | (go_at_call 27; go_in) | (go_at_call 28; go_in)))
      try with_reducible refine Own.Stay.mk ?_
      have hO := HO.out
      clear HO hix9 hax9 ix9_0 ix9_1 ix9_2 ix9_3 ix9_4 ix9 c9_0_0 c9_0_1 c9_0_2 c9_0_3 c9_0_4 c9_0_5 c9_0_6 c9_0_7 lt9_0 y9_0 c9_3_0 c9_3_1 lt9_3 y9_3 c9_4_i_2 c9_4_i_2_1 lt9_4 y9_4
      generalize hW : World.setCell _ _ _ = W25
      have hN : Own w0 W25 [row (nd22) 44 #[.iface 220 (.pointer (some ⟨nd23, 0, none⟩)), .int .i32 (2 * (i : Int)), .string nm, .int .i32 (2 * (i : Int) + 1), .int .u8 0, .bool false, .bool false, .bool false], row (nd2) 206 nd5, ((nd3, .map #[⟨.string ⟨#[95, 95, 115, 117, 112, 101, 114, 87, 114, 97, 112, 112, 101, 114]⟩, .agg #[.int .i32 0, .int .u32 0, .int .u32 2], 0⟩, ⟨.string ⟨#[95, 95, 115, 117, 112, 101, 114, 71, 101, 116]⟩, .agg #[.int .i32 0, .int .u32 0, .int .u32 3], 1⟩, ⟨.string ⟨#[95, 95, 112, 114, 105, 118, 97, 116, 101, 87, 114, 97, 112, 112, 101, 114]⟩, .agg #[.int .i32 0, .int .u32 0, .int .u32 4], 2⟩] 3) : Rw), row (nd4) 68 #[.int .u32 0, .int .u32 1], row (B8) 30 (((itR (vT1 D 0) (vB1 D (fun _ => 0) 0) i (gq + 1)).setIfInBounds (i * 2) (.iface 40 (.pointer (some ⟨nd22, 0, none⟩)))).setIfInBounds (i * 2 + 1) (.int .i32 (2 * (i : Int))))] (NodT Y D (fun _ => 0) 0 i) := by
        rw [← hW]
        exact ((hO).set 4 rfl (i * 2) _).set 4 rfl (i * 2 + 1) _
      clear hW hO
      have hO := hN
      clear hN
      have hN : Own w0 W25 [row (nd22) 44 #[.iface 220 (.pointer (some ⟨nd23, 0, none⟩)), .int .i32 (2 * (i : Int)), .string nm, .int .i32 (2 * (i : Int) + 1), .int .u8 0, .bool false, .bool false, .bool false], row (nd2) 206 nd5, ((nd3, .map #[⟨.string ⟨#[95, 95, 115, 117, 112, 101, 114, 87, 114, 97, 112, 112, 101, 114]⟩, .agg #[.int .i32 0, .int .u32 0, .int .u32 2], 0⟩, ⟨.string ⟨#[95, 95, 115, 117, 112, 101, 114, 71, 101, 116]⟩, .agg #[.int .i32 0, .int .u32 0, .int .u32 3], 1⟩, ⟨.string ⟨#[95, 95, 112, 114, 105, 118, 97, 116, 101, 87, 114, 97, 112, 112, 101, 114]⟩, .agg #[.int .i32 0, .int .u32 0, .int .u32 4], 2⟩] 3) : Rw), row (nd4) 68 #[.int .u32 0, .int .u32 1], row (B8) 30 (itR (vT1 (updM D i nd22 0 0) 0) (vB1 (updM D i nd22 0 0) (fun _ => 0) 0) (i + 1) gq)] (NodT Y D (fun _ => 0) 0 i) := (hO.sub [0, 1, 2, 3, 4] (by decide)).conv (by
        rw [← it_upd (D := D) (i := i) (g := gq) (a := nd22) (b := 0) (c := 0) (t := 40) (by rw [HKQ.out]; rfl)]
        rfl)
      obtain ⟨h1, h2, h3⟩ := NodT.skip (updM_same D i nd22 0 0) (show ¬ isT (updM D i nd22 0 0) i from by unfold isT; rw [show (updM D i nd22 0 0).kd i = 2 from HKQ.out]; decide) hN HSP.out HIJ.out
      obtain ⟨g0, k0⟩ := NodT.addS h1 h2
      go_roundg gq
      case measure => omega
      case rel => exact ⟨i + 1, (updM D i nd22 0 0), _, by omega, by first | rfl | simp, HKD.out, fun j hj => by
        by_cases e : j = i
        · subst e
          exact Or.inr (Or.inr (Or.inl ⟨HKQ.out, nd23, by rw [(show (updM D j nd22 0 0).nd j = nd22 from updN_self)]; exact addX_r⟩))
        · exact (RawI.same (updM_same D i nd22 0 0) (by omega) (HRW.out j (by omega))).mono (addX_l), k0, h3, g0⟩
    have HN2 := Lib.hid hkm
    clear hkm
    by_cases hkm : U i % 6 = 3
    · skip
      have hrm : (U i : Int).tmod 6 = 3 := by have h9 : (U i : Int).tmod 6 = ((U i % 6 : Nat) : Int) := rfl; rw [h9]; omega
      have HRM := Lib.hid hrm
      clear hrm
      have hkq : D.kd i = 3 := by rw [HKD.out]; exact hkm
      have HKQ := Lib.hid hkq
      have HKM := Lib.hid hkm
      clear hkq hkm
      obtain ⟨c9_2_0, c9_2_1, lt9_2, y9_2, -⟩ := hO.k2 2 rfl
      have HO := Lib.hid hO
      clear hO
      go_wp2_with (first | (with_reducible refine Own.stay (fn := Tryd.f6) ?_) | (first | (go_at_call 25; go_in) | (go_at_call 27; go_in) | (go_at_call 28; go_in)))
      try with_reducible refine Own.Stay.mk ?_
      have hO := HO.out
      clear HO c9_2_0 c9_2_1 lt9_2 y9_2
      have hL := hO.apart
      have hX := hO.apartX
      have HL := Lib.hid hL
      have HX := Lib.hid hX
      clear hL hX
      have hP9 := hO.pick [] (by decide)
      have h9_hk0 : ((U i : Int).tmod 6 == 0) = false := (by rw [HRM.out]; rfl)
      have h9_hk1 : ((U i : Int).tmod 6 == 1) = false := (by rw [HRM.out]; rfl)
      have h9_hk2 : ((U i : Int).tmod 6 == 2) = false := (by rw [HRM.out]; rfl)
      have h9_hk3 : ((U i : Int).tmod 6 == 3) = true := (by rw [HRM.out]; rfl)
      have T9 := asn3 (U i : Int) (2 * (i : Int)) (2 * (i : Int) + 1) nm _ _ _ hP9 h9_hk0 h9_hk1 h9_hk2 h9_hk3
      refine Calls.mono T9 ?_
      clear hP9 T9 h9_hk0 h9_hk1 h9_hk2 h9_hk3
      rintro e uw26 ⟨nd27, nd28, nd29, rfl, hQ⟩
      have hN : Own w0 uw26 [row (nd27) 234 #[.iface 40 (.pointer (some ⟨nd28, 0, none⟩)), .int .i32 (2 * (i : Int))], row (nd28) 44 #[.iface 244 (.pointer (some ⟨nd29, 0, none⟩)), .int .i32 (2 * (i : Int)), .string nm, .int .i32 (2 * (i : Int) + 1), .int .u8 0, .bool false, .bool false, .bool false], row (nd2) 206 nd5, ((nd3, .map #[⟨.string ⟨#[95, 95, 115, 117, 112, 101, 114, 87, 114, 97, 112, 112, 101, 114]⟩, .agg #[.int .i32 0, .int .u32 0, .int .u32 2], 0⟩, ⟨.string ⟨#[95, 95, 115, 117, 112, 101, 114, 71, 101, 116]⟩, .agg #[.int .i32 0, .int .u32 0, .int .u32 3], 1⟩, ⟨.string ⟨#[95, 95, 112, 114, 105, 118, 97, 116, 101, 87, 114, 97, 112, 112, 101, 114]⟩, .agg #[.int .i32 0, .int .u32 0, .int .u32 4], 2⟩] 3) : Rw), row (nd4) 68 #[.int .u32 0, .int .u32 1], row (B8) 30 (itR (vT1 D 0) (vB1 D (fun _ => 0) 0) i (gq + 1))] (NodT Y D (fun _ => 0) 0 i) := hQ.back HL.out HX.out [0, 1, 2, 3] (by decide) (by decide)
      clear hQ HL HX hO
      have hO := hN
      clear hN
      obtain ⟨ix9, hix9, hax9, hjx9⟩ := hO.ix
      have ix9_0 : ix9 nd27 = 0 := hjx9 0 _ _ rfl
      have ix9_1 : ix9 nd28 = 1 := hjx9 1 _ _ rfl
      have ix9_2 : ix9 nd2 = 2 := hjx9 2 _ _ rfl
      have ix9_3 : ix9 nd3 = 3 := hjx9 3 _ _ rfl
      have ix9_4 : ix9 nd4 = 4 := hjx9 4 _ _ rfl
      have ix9_5 : ix9 B8 = 5 := hjx9 5 _ _ rfl
      clear hjx9
      obtain ⟨c9_0_0, c9_0_1, lt9_0, y9_0, -⟩ := hO.k2 0 rfl
      obtain ⟨c9_1_0, c9_1_1, c9_1_2, c9_1_3, c9_1_4, c9_1_5, c9_1_6, c9_1_7, lt9_1, y9_1, -⟩ := hO.k8 1 rfl
      obtain ⟨c9_4_0, c9_4_1, lt9_4, y9_4, -⟩ := hO.k2 4 rfl
      have c9_5_i_2 : uw26.cell? ⟨B8, i * 2, none⟩ = some (.nilIface) := hO.cell 5 rfl (i * 2) (itR_z0)
      have c9_5_i_2_1 : uw26.cell? ⟨B8, i * 2 + 1, none⟩ = some (.int .i32 0) := hO.cell 5 rfl (i * 2 + 1) (itR_z1)
      have lt9_5 : B8 < uw26.heap.size := hO.lt 5 rfl
      have y9_5 : ∀ o, uw26.frozen? ⟨B8, o, none⟩ = false := hO.free 5 rfl
      have HO := Lib.hid hO
      clear hO
      go_wp2_with (first | (with_reducible refine Own.stay (fn := Tryd.f6) ?_) | (first | (go_at_call 25; go_in) | (go_at_call 27; go_in) | (go_at_call 28; go_in)))
      try with_reducible refine Own.Stay.mk ?_
      have hO := HO.out
      clear HO hix9 hax9 ix9_0 ix9_1 ix9_2 ix9_3 ix9_4 ix9_5 ix9 c9_0_0 c9_0_1 lt9_0 y9_0 c9_1_0 c9_1_1 c9_1_2 c9_1_3 c9_1_4 c9_1_5 c9_1_6 c9_1_7 lt9_1 y9_1 c9_4_0 c9_4_1 lt9_4 y9_4 c9_5_i_2 c9_5_i_2_1 lt9_5 y9_5
      generalize hW : World.setCell _ _ _ = W31
      have hN : Own w0 W31 [row (nd27) 234 #[.iface 40 (.pointer (some ⟨nd28, 0, none⟩)), .int .i32 (2 * (i : Int))], row (nd28) 44 #[.iface 244 (.pointer (some ⟨nd29, 0, none⟩)), .int .i32 (2 * (i : Int)), .string nm, .int .i32 (2 * (i : Int) + 1), .int .u8 0, .bool false, .bool false, .bool false], row (nd2) 206 nd5, ((nd3, .map #[⟨.string ⟨#[95, 95, 115, 117, 112, 101, 114, 87, 114, 97, 112, 112, 101, 114]⟩, .agg #[.int .i32 0, .int .u32 0, .int .u32 2], 0⟩, ⟨.string ⟨#[95, 95, 115, 117, 112, 101, 114, 71, 101, 116]⟩, .agg #[.int .i32 0, .int .u32 0, .int .u32 3], 1⟩, ⟨.string ⟨#[95, 95, 112, 114, 105, 118, 97, 116, 101, 87, 114, 97, 112, 112, 101, 114]⟩, .agg #[.int .i32 0, .int .u32 0, .int .u32 4], 2⟩] 3) : Rw), row (nd4) 68 #[.int .u32 0, .int .u32 1], row (B8) 30 (((itR (vT1 D 0) (vB1 D (fun _ => 0) 0) i (gq + 1)).setIfInBounds (i * 2) (.iface 227 (.pointer (some ⟨nd27, 0, none⟩)))).setIfInBounds (i * 2 + 1) (.int .i32 (2 * (i : Int))))] (NodT Y D (fun _ => 0) 0 i) := by
        rw [← hW]
        exact ((hO).set 5 rfl (i * 2) _).set 5 rfl (i * 2 + 1) _
      clear hW hO
      have hO := hN
      clear hN
      have hN : Own w0 W31 [row (nd27) 234 #[.iface 40 (.pointer (some ⟨nd28, 0, none⟩)), .int .i32 (2 * (i : Int))], row (nd28) 44 #[.iface 244 (.pointer (some ⟨nd29, 0, none⟩)), .int .i32 (2 * (i : Int)), .string nm, .int .i32 (2 * (i : Int) + 1), .int .u8 0, .bool false, .bool false, .bool false], row (nd2) 206 nd5, ((nd3, .map #[⟨.string ⟨#[95, 95, 115, 117, 112, 101, 114, 87, 114, 97, 112, 112, 101, 114]⟩, .agg #[.int .i32 0, .int .u32 0, .int .u32 2], 0⟩, ⟨.string ⟨#[95, 95, 115, 117, 112, 101, 114, 71, 101, 116]⟩, .agg #[.int .i32 0, .int .u32 0, .int .u32 3], 1⟩, ⟨.string ⟨#[95, 95, 112, 114, 105, 118, 97, 116, 101, 87, 114, 97, 112, 112, 101, 114]⟩, .agg #[.int .i32 0, .int .u32 0, .int .u32 4], 2⟩] 3) : Rw), row (nd4) 68 #[.int .u32 0, .int .u32 1], row (B8) 30 (itR (vT1 (updM D i nd27 nd28 0) 0) (vB1 (updM D i nd27 nd28 0) (fun _ => 0) 0) (i + 1) gq)] (NodT Y D (fun _ => 0) 0 i) := (hO.sub [0, 1, 2, 3, 4, 5] (by decide)).conv (by
        rw [← it_upd (D := D) (i := i) (g := gq) (a := nd27) (b := nd28) (c := 0) (t := 227) (by rw [HKQ.out]; rfl)]
        rfl)
      obtain ⟨h1, h2, h3⟩ := NodT.addT (D' := (updM D i nd27 nd28 0)) (nw := fun _ => 0) (updM_same D i nd27 nd28 0) (by unfold tn; rw [if_pos (show (updM D i nd27 nd28 0).kd i = 3 from HKQ.out)]; exact updN_self.symm) (by unfold tnO; rw [if_pos (show (updM D i nd27 nd28 0).kd i = 3 from HKQ.out), if_neg (by decide), show (updM D i nd27 nd28 0).inn i = nd28 from updN_self]) hN HSP.out HIJ.out
      obtain ⟨g0, k0⟩ := NodT.addS h1 h2
      go_roundg gq
      case measure => omega
      case rel => exact ⟨i + 1, (updM D i nd27 nd28 0), _, by omega, by first | rfl | simp, HKD.out, fun j hj => by
        by_cases e : j = i
        · subst e
          exact Or.inr (Or.inr (Or.inr (Or.inl ⟨HKQ.out, nd29, by rw [(show (updM D j nd27 nd28 0).inn j = nd28 from updN_self)]; exact addX_r⟩)))
        · exact (RawI.same (updM_same D i nd27 nd28 0) (by omega) (HRW.out j (by omega))).mono (addX_l), k0, h3, g0⟩
    have HN3 := Lib.hid hkm
    clear hkm
    by_cases hkm : U i % 6 = 4
    · skip
      have hrm : (U i : Int).tmod 6 = 4 := by have h9 : (U i : Int).tmod 6 = ((U i % 6 : Nat) : Int) := rfl; rw [h9]; omega
      have HRM := Lib.hid hrm
      clear hrm
      have hkq : D.kd i = 4 := by rw [HKD.out]; exact hkm
      have HKQ := Lib.hid hkq
      have HKM := Lib.hid hkm
      clear hkq hkm
      obtain ⟨c9_2_0, c9_2_1, lt9_2, y9_2, -⟩ := hO.k2 2 rfl
      have HO := Lib.hid hO
      clear hO
      go_wp2_with (first | (with_reducible refine Own.stay (fn := Tryd.f6) ?_) | (first | (go_at_call 25; go_in) | (go_at_call 27; go_in) | (go_at_call 28; go_in)))
      try with_reducible refine Own.Stay.mk ?_
      have hO := HO.out
      clear HO c9_2_0 c9_2_1 lt9_2 y9_2
      have hL := hO.apart
      have hX := hO.apartX
      have HL := Lib.hid hL
      have HX := Lib.hid hX
      clear hL hX
      have hP9 := hO.pick [] (by decide)
      have h9_hk0 : ((U i : Int).tmod 6 == 0) = false := (by rw [HRM.out]; rfl)
      have h9_hk1 : ((U i : Int).tmod 6 == 1) = false := (by rw [HRM.out]; rfl)
      have h9_hk2 : ((U i : Int).tmod 6 == 2) = false := (by rw [HRM.out]; rfl)
      have h9_hk3 : ((U i : Int).tmod 6 == 3) = false := (by rw [HRM.out]; rfl)
      have h9_hk4 : ((U i : Int).tmod 6 == 4) = true := (by rw [HRM.out]; rfl)
      have T9 := asn4 (U i : Int) (2 * (i : Int)) (2 * (i : Int) + 1) nm _ _ _ hP9 h9_hk0 h9_hk1 h9_hk2 h9_hk3 h9_hk4
      refine Calls.mono T9 ?_
      clear hP9 T9 h9_hk0 h9_hk1 h9_hk2 h9_hk3 h9_hk4
      rintro e uw32 ⟨nd33, rfl, hQ⟩
      have hN : Own w0 uw32 [row (nd2) 206 nd5, ((nd3, .map #[⟨.string ⟨#[95, 95, 115, 117, 112, 101, 114, 87, 114, 97, 112, 112, 101, 114]⟩, .agg #[.int .i32 0, .int .u32 0, .int .u32 2], 0⟩, ⟨.string ⟨#[95, 95, 115, 117, 112, 101, 114, 71, 101, 116]⟩, .agg #[.int .i32 0, .int .u32 0, .int .u32 3], 1⟩, ⟨.string ⟨#[95, 95, 112, 114, 105, 118, 97, 116, 101, 87, 114, 97, 112, 112, 101, 114]⟩, .agg #[.int .i32 0, .int .u32 0, .int .u32 4], 2⟩] 3) : Rw), row (nd4) 68 #[.int .u32 0, .int .u32 1], row (B8) 30 (itR (vT1 D 0) (vB1 D (fun _ => 0) 0) i (gq + 1))] (NodT Y D (fun _ => 0) 0 i) := hQ.back HL.out HX.out [0, 1, 2, 3] (by decide) (by decide)
      clear hQ HL HX hO
      have hO := hN
      clear hN
      obtain ⟨ix9, hix9, hax9, hjx9⟩ := hO.ix
      have ix9_0 : ix9 nd2 = 0 := hjx9 0 _ _ rfl
      have ix9_1 : ix9 nd3 = 1 := hjx9 1 _ _ rfl
      have ix9_2 : ix9 nd4 = 2 := hjx9 2 _ _ rfl
      have ix9_3 : ix9 B8 = 3 := hjx9 3 _ _ rfl
      clear hjx9
      obtain ⟨c9_2_0, c9_2_1, lt9_2, y9_2, -⟩ := hO.k2 2 rfl
      have c9_3_i_2 : uw32.cell? ⟨B8, i * 2, none⟩ = some (.nilIface) := hO.cell 3 rfl (i * 2) (itR_z0)
      have c9_3_i_2_1 : uw32.cell? ⟨B8, i * 2 + 1, none⟩ = some (.int .i32 0) := hO.cell 3 rfl (i * 2 + 1) (itR_z1)
      have lt9_3 : B8 < uw32.heap.size := hO.lt 3 rfl
      have y9_3 : ∀ o, uw32.frozen? ⟨B8, o, none⟩ = false := hO.free 3 rfl
      have HO := Lib.hid hO
      clear hO
      go_wp2_with (first | (with_reducible refine Own.stay (fn := Tryd.f6) ?_) | (first | (go_at_call 25; go_in) | (go_at_call 27; go_in) | (go_at_call 28; go_in)))
      try with_reducible refine Own.Stay.mk ?_
      have hO := HO.out
      clear HO hix9 hax9 ix9_0 ix9_1 ix9_2 ix9_3 ix9 c9_2_0 c9_2_1 lt9_2 y9_2 c9_3_i_2 c9_3_i_2_1 lt9_3 y9_3
      generalize hW : World.setCell _ _ _ = W35
      have hN : Own w0 W35 [row (nd2) 206 nd5, ((nd3, .map #[⟨.string ⟨#[95, 95, 115, 117, 112, 101, 114, 87, 114, 97, 112, 112, 101, 114]⟩, .agg #[.int .i32 0, .int .u32 0, .int .u32 2], 0⟩, ⟨.string ⟨#[95, 95, 115, 117, 112, 101, 114, 71, 101, 116]⟩, .agg #[.int .i32 0, .int .u32 0, .int .u32 3], 1⟩, ⟨.string ⟨#[95, 95, 112, 114, 105, 118, 97, 116, 101, 87, 114, 97, 112, 112, 101, 114]⟩, .agg #[.int .i32 0, .int .u32 0, .int .u32 4], 2⟩] 3) : Rw), row (nd4) 68 #[.int .u32 0, .int .u32 1], row (B8) 30 (((itR (vT1 D 0) (vB1 D (fun _ => 0) 0) i (gq + 1)).setIfInBounds (i * 2) (.iface 220 (.pointer (some ⟨nd33, 0, none⟩)))).setIfInBounds (i * 2 + 1) (.int .i32 (2 * (i : Int))))] (NodT Y D (fun _ => 0) 0 i) := by
        rw [← hW]
        exact ((hO).set 3 rfl (i * 2) _).set 3 rfl (i * 2 + 1) _
      clear hW hO
      have hO := hN
      clear hN
      have hN : Own w0 W35 [row (nd2) 206 nd5, ((nd3, .map #[⟨.string ⟨#[95, 95, 115, 117, 112, 101, 114, 87, 114, 97, 112, 112, 101, 114]⟩, .agg #[.int .i32 0, .int .u32 0, .int .u32 2], 0⟩, ⟨.string ⟨#[95, 95, 115, 117, 112, 101, 114, 71, 101, 116]⟩, .agg #[.int .i32 0, .int .u32 0, .int .u32 3], 1⟩, ⟨.string ⟨#[95, 95, 112, 114, 105, 118, 97, 116, 101, 87, 114, 97, 112, 112, 101, 114]⟩, .agg #[.int .i32 0, .int .u32 0, .int .u32 4], 2⟩] 3) : Rw), row (nd4) 68 #[.int .u32 0, .int .u32 1], row (B8) 30 (itR (vT1 (updM D i nd33 0 0) 0) (vB1 (updM D i nd33 0 0) (fun _ => 0) 0) (i + 1) gq)] (NodT Y D (fun _ => 0) 0 i) := (hO.sub [0, 1, 2, 3] (by decide)).conv (by
        rw [← it_upd (D := D) (i := i) (g := gq) (a := nd33) (b := 0) (c := 0) (t := 220) (by rw [HKQ.out]; rfl)]
        rfl)
      obtain ⟨h1, h2, h3⟩ := NodT.skip (updM_same D i nd33 0 0) (show ¬ isT (updM D i nd33 0 0) i from by unfold isT; rw [show (updM D i nd33 0 0).kd i = 4 from HKQ.out]; decide) hN HSP.out HIJ.out
      go_roundg gq
      case measure => omega
      case rel => exact ⟨i + 1, (updM D i nd33 0 0), _, by omega, by first | rfl | simp, HKD.out, fun j hj => by
        by_cases e : j = i
        · subst e
          exact Or.inr (Or.inr (Or.inr (Or.inr (Or.inl HKQ.out))))
        · exact (RawI.same (updM_same D i nd33 0 0) (by omega) (HRW.out j (by omega))).mono (fun _ _ h => h), h2, h3, h1⟩
    have HN4 := Lib.hid hkm
    clear hkm
    have hkm : U i % 6 = 5 := by have := HN0.out; have := HN1.out; have := HN2.out; have := HN3.out; have := HN4.out; omega
    · skip
      have hrm : (U i : Int).tmod 6 = 5 := by have h9 : (U i : Int).tmod 6 = ((U i % 6 : Nat) : Int) := rfl; rw [h9]; omega
      have HRM := Lib.hid hrm
      clear hrm
      have hkq : D.kd i = 5 := by rw [HKD.out]; exact hkm
      have HKQ := Lib.hid hkq
      have HKM := Lib.hid hkm
      clear hkq hkm
      obtain ⟨c9_2_0, c9_2_1, lt9_2, y9_2, -⟩ := hO.k2 2 rfl
      have HO := Lib.hid hO
      clear hO
      go_wp2_with (first | (with_reducible refine Own.stay (fn := Tryd.f6) ?_) | (first | (go_at_call 25; go_in) | (go_at_call 27; go_in) | (go_at_call 28; go_in)))
      try with_reducible refine Own.Stay.mk ?_
      have hO := HO.out
      clear HO c9_2_0 c9_2_1 lt9_2 y9_2
      have hL := hO.apart
      have hX := hO.apartX
      have HL := Lib.hid hL
      have HX := Lib.hid hX
      clear hL hX
      have hP9 := hO.pick [] (by decide)
      have h9_hk0 : ((U i : Int).tmod 6 == 0) = false := (by rw [HRM.out]; rfl)
      have h9_hk1 : ((U i : Int).tmod 6 == 1) = false := (by rw [HRM.out]; rfl)
      have h9_hk2 : ((U i : Int).tmod 6 == 2) = false := (by rw [HRM.out]; rfl)
      have h9_hk3 : ((U i : Int).tmod 6 == 3) = false := (by rw [HRM.out]; rfl)
      have h9_hk4 : ((U i : Int).tmod 6 == 4) = false := (by rw [HRM.out]; rfl)
      have T9 := asn5 (U i : Int) (2 * (i : Int)) (2 * (i : Int) + 1) nm _ _ _ hP9 h9_hk0 h9_hk1 h9_hk2 h9_hk3 h9_hk4
      refine Calls.mono T9 ?_
      clear hP9 T9 h9_hk0 h9_hk1 h9_hk2 h9_hk3 h9_hk4
      rintro e uw36 ⟨nd37, nd38, nd39, nd40, rfl, hQ⟩
      have hN : Own w0 uw36 [row (nd37) 237 #[.slice (some ⟨nd38, 0, none⟩) 1 1, .int .i32 0, .int .i32 0, .bool false, .bool false], row (nd38) 243 #[.pointer none, .nilIface, .int .i32 0, .iface 40 (.pointer (some ⟨nd39, 0, none⟩)), .int .i32 (2 * (i : Int)), .nilIface, .int .i32 0, .slice none 0 0, .int .i32 0, .int .i32 0, .int .u8 0, .int .u8 0], row (nd39) 44 #[.iface 244 (.pointer (some ⟨nd40, 0, none⟩)), .int .i32 (2 * (i : Int)), .string nm, .int .i32 (2 * (i : Int) + 1), .int .u8 0, .bool false, .bool false, .bool false], row (nd2) 206 nd5, ((nd3, .map #[⟨.string ⟨#[95, 95, 115, 117, 112, 101, 114, 87, 114, 97, 112, 112, 101, 114]⟩, .agg #[.int .i32 0, .int .u32 0, .int .u32 2], 0⟩, ⟨.string ⟨#[95, 95, 115, 117, 112, 101, 114, 71, 101, 116]⟩, .agg #[.int .i32 0, .int .u32 0, .int .u32 3], 1⟩, ⟨.string ⟨#[95, 95, 112, 114, 105, 118, 97, 116, 101, 87, 114, 97, 112, 112, 101, 114]⟩, .agg #[.int .i32 0, .int .u32 0, .int .u32 4], 2⟩] 3) : Rw), row (nd4) 68 #[.int .u32 0, .int .u32 1], row (B8) 30 (itR (vT1 D 0) (vB1 D (fun _ => 0) 0) i (gq + 1))] (NodT Y D (fun _ => 0) 0 i) := hQ.back HL.out HX.out [0, 1, 2, 3] (by decide) (by decide)
      clear hQ HL HX hO
      have hO := hN
      clear hN
      obtain ⟨ix9, hix9, hax9, hjx9⟩ := hO.ix
      have ix9_0 : ix9 nd37 = 0 := hjx9 0 _ _ rfl
      have ix9_1 : ix9 nd38 = 1 := hjx9 1 _ _ rfl
      have ix9_2 : ix9 nd39 = 2 := hjx9 2 _ _ rfl
      have ix9_3 : ix9 nd2 = 3 := hjx9 3 _ _ rfl
      have ix9_4 : ix9 nd3 = 4 := hjx9 4 _ _ rfl
      have ix9_5 : ix9 nd4 = 5 := hjx9 5 _ _ rfl
      have ix9_6 : ix9 B8 = 6 := hjx9 6 _ _ rfl
      clear hjx9
      obtain ⟨c9_0_0, c9_0_1, c9_0_2, c9_0_3, c9_0_4, lt9_0, y9_0, -⟩ := hO.k5 0 rfl
      obtain ⟨c9_2_0, c9_2_1, c9_2_2, c9_2_3, c9_2_4, c9_2_5, c9_2_6, c9_2_7, lt9_2, y9_2, -⟩ := hO.k8 2 rfl
      obtain ⟨c9_5_0, c9_5_1, lt9_5, y9_5, -⟩ := hO.k2 5 rfl
      have c9_6_i_2 : uw36.cell? ⟨B8, i * 2, none⟩ = some (.nilIface) := hO.cell 6 rfl (i * 2) (itR_z0)
      have c9_6_i_2_1 : uw36.cell? ⟨B8, i * 2 + 1, none⟩ = some (.int .i32 0) := hO.cell 6 rfl (i * 2 + 1) (itR_z1)
      have lt9_6 : B8 < uw36.heap.size := hO.lt 6 rfl
      have y9_6 : ∀ o, uw36.frozen? ⟨B8, o, none⟩ = false := hO.free 6 rfl
      have HO := Lib.hid hO
      clear hO
      go_wp2_with (first | (with_reducible refine Own.stay (fn := Tryd.f6) ?_) | (first | (go_at_call 25; go_in) | (go_at_call 27; go_in) | (go_at_call 28; go_in)))
      try with_reducible refine Own.Stay.mk ?_
      have hO := HO.out
      clear HO hix9 hax9 ix9_0 ix9_1 ix9_2 ix9_3 ix9_4 ix9_5 ix9_6 ix9 c9_0_0 c9_0_1 c9_0_2 c9_0_3 c9_0_4 lt9_0 y9_0 c9_2_0 c9_2_1 c9_2_2 c9_2_3 c9_2_4 c9_2_5 c9_2_6 c9_2_7 lt9_2 y9_2 c9_5_0 c9_5_1 lt9_5 y9_5 c9_6_i_2 c9_6_i_2_1 lt9_6 y9_6
      generalize hW : World.setCell _ _ _ = W42
      have hN : Own w0 W42 [row (nd37) 237 #[.slice (some ⟨nd38, 0, none⟩) 1 1, .int .i32 0, .int .i32 0, .bool false, .bool false], row (nd38) 243 #[.pointer none, .nilIface, .int .i32 0, .iface 40 (.pointer (some ⟨nd39, 0, none⟩)), .int .i32 (2 * (i : Int)), .nilIface, .int .i32 0, .slice none 0 0, .int .i32 0, .int .i32 0, .int .u8 0, .int .u8 0], row (nd39) 44 #[.iface 244 (.pointer (some ⟨nd40, 0, none⟩)), .int .i32 (2 * (i : Int)), .string nm, .int .i32 (2 * (i : Int) + 1), .int .u8 0, .bool false, .bool false, .bool false], row (nd2) 206 nd5, ((nd3, .map #[⟨.string ⟨#[95, 95, 115, 117, 112, 101, 114, 87, 114, 97, 112, 112, 101, 114]⟩, .agg #[.int .i32 0, .int .u32 0, .int .u32 2], 0⟩, ⟨.string ⟨#[95, 95, 115, 117, 112, 101, 114, 71, 101, 116]⟩, .agg #[.int .i32 0, .int .u32 0, .int .u32 3], 1⟩, ⟨.string ⟨#[95, 95, 112, 114, 105, 118, 97, 116, 101, 87, 114, 97, 112, 112, 101, 114]⟩, .agg #[.int .i32 0, .int .u32 0, .int .u32 4], 2⟩] 3) : Rw), row (nd4) 68 #[.int .u32 0, .int .u32 1], row (B8) 30 (((itR (vT1 D 0) (vB1 D (fun _ => 0) 0) i (gq + 1)).setIfInBounds (i * 2) (.iface 229 (.pointer (some ⟨nd37, 0, none⟩)))).setIfInBounds (i * 2 + 1) (.int .i32 (2 * (i : Int))))] (NodT Y D (fun _ => 0) 0 i) := by
        rw [← hW]
        exact ((hO).set 6 rfl (i * 2) _).set 6 rfl (i * 2 + 1) _
      clear hW hO
      have hO := hN
      clear hN
      have hN : Own w0 W42 [row (nd38) 243 #[.pointer none, .nilIface, .int .i32 0, .iface 40 (.pointer (some ⟨nd39, 0, none⟩)), .int .i32 (2 * (i : Int)), .nilIface, .int .i32 0, .slice none 0 0, .int .i32 0, .int .i32 0, .int .u8 0, .int .u8 0], row (nd37) 237 #[.slice (some ⟨nd38, 0, none⟩) 1 1, .int .i32 0, .int .i32 0, .bool false, .bool false], row (nd39) 44 #[.iface 244 (.pointer (some ⟨nd40, 0, none⟩)), .int .i32 (2 * (i : Int)), .string nm, .int .i32 (2 * (i : Int) + 1), .int .u8 0, .bool false, .bool false, .bool false], row (nd2) 206 nd5, ((nd3, .map #[⟨.string ⟨#[95, 95, 115, 117, 112, 101, 114, 87, 114, 97, 112, 112, 101, 114]⟩, .agg #[.int .i32 0, .int .u32 0, .int .u32 2], 0⟩, ⟨.string ⟨#[95, 95, 115, 117, 112, 101, 114, 71, 101, 116]⟩, .agg #[.int .i32 0, .int .u32 0, .int .u32 3], 1⟩, ⟨.string ⟨#[95, 95, 112, 114, 105, 118, 97, 116, 101, 87, 114, 97, 112, 112, 101, 114]⟩, .agg #[.int .i32 0, .int .u32 0, .int .u32 4], 2⟩] 3) : Rw), row (nd4) 68 #[.int .u32 0, .int .u32 1], row (B8) 30 (itR (vT1 (updM D i nd37 nd39 nd38) 0) (vB1 (updM D i nd37 nd39 nd38) (fun _ => 0) 0) (i + 1) gq)] (NodT Y D (fun _ => 0) 0 i) := (hO.sub [1, 0, 2, 3, 4, 5, 6] (by decide)).conv (by
        rw [← it_upd (D := D) (i := i) (g := gq) (a := nd37) (b := nd39) (c := nd38) (t := 229) (by rw [HKQ.out]; rfl)]
        rfl)
      obtain ⟨h1, h2, h3⟩ := NodT.addT (D' := (updM D i nd37 nd39 nd38)) (nw := fun _ => 0) (updM_same D i nd37 nd39 nd38) (by unfold tn; rw [if_neg (show ¬ (updM D i nd37 nd39 nd38).kd i = 3 from by rw [show (updM D i nd37 nd39 nd38).kd i = 5 from HKQ.out]; decide)]; exact updN_self.symm) (by unfold tnO; rw [if_neg (show ¬ (updM D i nd37 nd39 nd38).kd i = 3 from by rw [show (updM D i nd37 nd39 nd38).kd i = 5 from HKQ.out]; decide), if_neg (by decide), show (updM D i nd37 nd39 nd38).inn i = nd39 from updN_self]) hN HSP.out HIJ.out
      obtain ⟨g0, k0⟩ := NodT.addS h1 h2
      obtain ⟨g1, k1⟩ := NodT.addS g0 k0
      go_roundg gq
      case measure => omega
      case rel => exact ⟨i + 1, (updM D i nd37 nd39 nd38), _, by omega, by first | rfl | simp, HKD.out, fun j hj => by
        by_cases e : j = i
        · subst e
          exact Or.inr (Or.inr (Or.inr (Or.inr (Or.inr ⟨HKQ.out, by rw [(show (updM D j nd37 nd39 nd38).nd j = nd37 from updN_self), (show (updM D j nd37 nd39 nd38).pp j = nd38 from updN_self)]; exact addX_l _ _ addX_r, nd40, by rw [(show (updM D j nd37 nd39 nd38).inn j = nd39 from updN_self)]; exact addX_r⟩))))
        · exact (RawI.same (updM_same D i nd37 nd39 nd38) (by omega) (HRW.out j (by omega))).mono (fun b o h => addX_l _ _ (addX_l _ _ h)), k1, h3, g1⟩
  obtain rfl : gk = 0 := by omega
  obtain rfl : n = i := by omega
  have hlt9 : ¬ (n : Int) < (n : Int) := by omega
  have HKD := Lib.hid hkd
  have HRW := Lib.hid hraw
  have HSP := Lib.hid hsp
  have HIJ := Lib.hid hij
  clear hkd hraw hsp hij
  obtain ⟨c9_2_0, c9_2_1, lt9_2, y9_2, -⟩ := hO.k2 2 rfl
  have HO := Lib.hid hO
  clear hO
  go_wp2_with (first | (with_reducible refine Own.stay (fn := Tryd.f6) ?_) | (first | (go_at_call 25; go_in) | (go_at_call 27; go_in) | (go_at_call 28; go_in)))
  try with_reducible refine Own.Stay.mk ?_
  have hO := HO.out
  clear HO c9_2_0 c9_2_1 lt9_2 y9_2
  generalize hW : World.alloc _ _ = W44
  have hN : Own w0 W44 [row (wr.heap.size + 1 + 1 + 1) 30 #[.iface 62 (.pointer (some ⟨wr.heap.size + 1, 0, none⟩)), .int .i32 (-1)], row (wr.heap.size + 1 + 1) 30 #[.iface 62 (.pointer (some ⟨wr.heap.size + 1, 0, none⟩)), .int .i32 (-1)], row (wr.heap.size + 1) 65 #[.slice (some ⟨B8, 0, none⟩) n n, .int .i32 0, .int .i32 0, .bool false, .bool false], row (wr.heap.size) 30 #[.iface 62 (.pointer (some ⟨wr.heap.size + 1, 0, none⟩)), .int .i32 (-1)], row (nd2) 206 nd5, ((nd3, .map #[⟨.string ⟨#[95, 95, 115, 117, 112, 101, 114, 87, 114, 97, 112, 112, 101, 114]⟩, .agg #[.int .i32 0, .int .u32 0, .int .u32 2], 0⟩, ⟨.string ⟨#[95, 95, 115, 117, 112, 101, 114, 71, 101, 116]⟩, .agg #[.int .i32 0, .int .u32 0, .int .u32 3], 1⟩, ⟨.string ⟨#[95, 95, 112, 114, 105, 118, 97, 116, 101, 87, 114, 97, 112, 112, 101, 114]⟩, .agg #[.int .i32 0, .int .u32 0, .int .u32 4], 2⟩] 3) : Rw), row (nd4) 68 #[.int .u32 0, .int .u32 1], row (B8) 30 (itR (vT1 D 0) (vB1 D (fun _ => 0) 0) n 0)] (NodT Y D (fun _ => 0) 0 n) := by
    rw [← hW]
    exact ((((hO).alloc' _ (wr.heap.size) (by simp)).alloc' _ (wr.heap.size + 1) (by simp)).alloc' _ (wr.heap.size + 1 + 1) (by simp)).alloc' _ (wr.heap.size + 1 + 1 + 1) (by simp)
  clear hW hO
  generalize wr.heap.size + 1 + 1 + 1 = B43_3 at hN ⊢
  generalize wr.heap.size + 1 + 1 = B43_2 at hN ⊢
  generalize wr.heap.size + 1 = B43_1 at hN ⊢
  generalize wr.heap.size = B43 at hN ⊢
  have hO := hN
  clear hN
  rw [HC9.out]
  exact HB.out nd2 nd3 nd4 B43_1 B8 B43_2 nd5 D Y pr6 pr7 hn4 (by omega) HRW.out (fun i hi => by rw [HKD.out]; exact Nat.mod_lt _ (by decide)) HSP.out HIJ.out (hO.sub [4, 5, 6, 2, 7, 1] (by decide))
end Go.Proofs.YtcbdjbjbikiaeaaDoor.Use
