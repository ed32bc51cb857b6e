/- The law from its look for the first match on. No condition. -/
import Derived.Test.YtdbnnpoffpipjaaFlc
import Derived.Test.YtdbnnpoffpipjaaLp
import Derived.Test.YtdbnnpoffpipjaaCu
import Derived.Test.YtdbnnpoffpipjaaLf
import Derived.Test.YtdbnnpoffpipjaaIr
import Derived.Test.YtdbnnpoffpipjaaDr
import Derived.Test.YtdbnnpoffpipjaaLv
import Derived.Test.YtdbnnpoffpipjaaFlb
import Derived.Test.YtdbnnpoffpipjaaFin
import Derived.Test.YtdbnnpoffpipjaaFll
import Derived.Test.YtdbnnpoffpipjaaRdr
import Derived.Test.YtdbnnpoffpipjaaFfl
import Derived.Test.YtdbnnpoffpipjaaFfr
import Derived.Test.YtdbnnpoffpipjaaFnb
import Derived.Test.YtdbnnpoffpipjaaFp
import Derived.Test.YtdbnnpoffpipjaaFd
import Derived.Test.YtdbnnpoffpipjaaFn1
import Derived.Test.YtdbnnpoffpipjaaFf1
import Derived.Test.YtdbnnpoffpipjaaJn
import Derived.Test.YtdbnnpoffpipjaaTre
import Derived.Test.YtdbnnpoffpipjaaLoop
import Derived.Test.YtdbnnpoffpipjaaAppL
import Derived.Test.YtdbnnpoffpipjaaApp
import Derived.Test.YtdbnnpoffpipjaaOwnK
import Derived.Test.YtdbnnpoffpipjaaOwn
import Derived.Test.YtdbnnpoffpipjaaDeepCells
import Derived.Test.YtdbnnpoffpipjaaRows
namespace Go.Proofs.Ytdbnnpoffpipjaa.Use
open Go.ChangeShapes Go.WideShapes Go.ChangeAt Go.RowKit Go.Sort Own
set_option linter.unusedVariables false

set_option maxRecDepth 100000 in
set_option maxHeartbeats 4000000 in
theorem tl32 (D : Dat) (U : Nat → Nat) (n : Nat) (T : Tr) (ub kb ba bb tb : Nat) (tz1 tz2 tz3 tz4 tz5 tz6 tz7 tz8 tz12 tz14 tz15 tz16 tz18 tz19 tz20 tz21 tz22 tz23 tz24 tz25 tz26 tz27 tz28 tz29 tz30 tz31 tz32 tz33 tz34 tz35 tz36 tz37 tz38 tz39 tz40 tz41 tz42 tz43 tz44 tz45 tz46 tz47 tz48 tz49 tz50 tz51 tz52 tz53 tz54 tz55 tz56 tz57 tz58 tz59 tz60 tz61 tz62 tz63 tz64 tz65 tz66 tz67 tz68 tz69 tz70 tz71 tz72 tz73 tz74 tz75 tz76 tz77 tz78 tz79 tz80 tz81 tz82 tz83 tz84 tz85 tz86 tz87 tz88 tz89 tz90 tz91 tz92 tz93 tz94 tz95 tz96 tz97 tz98 tz99 tz100 tz101 tz102 tz103 tz104 tz105 tz106 tz107 tz108 tz109 tz110 tz111 tz112 tz113 tz114 tz115 tz116 tz117 tz118 tz119 tz120 tz121 tz122 tz123 tz124 tz125 tz126 tz127 tz128 tz129 tz130 tz131 tz132 tz133 tz134 tz135 tz136 tz137 tz138 tz139 tz140 tz141 tz142 tz143 tz144 tz145 tz146 tz147 tz148 tz149 tz150 tz151 tz152 tz153 tz154 tz155 tz156 tz157 tz158 tz159 tz160 tz161 tz162 tz163 tz164 tz165 tz166 tz167 tz168 tz169 tz170 tz171 tz172 tz173 tz174 tz175 tz176 tz177 tz178 tz179 tz180 tz181 tz182 tz183 tz184 tz185 : Value) (w0 w : World) (X Y : Nat → Obj → Prop) (hO : Own w0 w [row (tb) 35 #[dV D T, .int .i32 (lV T)], row (ub) 5 (itR U n), row (kb) 36 (clR D n 0), row (ba) 27 #[.int .u32 D.src, .int .u32 D.inn], row (bb) 27 #[.int .u32 D.src, .int .u32 D.inx]] Y) (hn4 : n ≤ 4096) (hu9 : ∀ i : Nat, i < n → U i < 256) (hkd : ∀ i : Nat, i < n → (U i : Int).tmod 3 = (D.kd i : Int)) (hk2 : ∀ i : Nat, D.kd i ≤ 2) (hne : ¬ D.inx = D.inn) (hT : T.flat = List.range' 0 n) (hYL : ∀ b o, LvX X D n b o → Y b o) (hN : NodesIn Y D T) (hap : AptD D n) :
    Code.wp Try.prog rest32 (bodyPost Try.prog Try.f3 (l32Post w0 X)) ⟨#[.slice (some ⟨ub, 0, none⟩) n n, tz1, tz2, tz3, tz4, tz5, tz6, tz7, tz8, .int .i64 (n : Int), .pointer (some ⟨ba, 0, none⟩), .pointer (some ⟨bb, 0, none⟩), tz12, .slice (some ⟨kb, 0, none⟩) n n, tz14, tz15, tz16, .pointer (some ⟨tb, 0, none⟩), tz18, tz19, tz20, tz21, tz22, tz23, tz24, tz25, tz26, tz27, tz28, tz29, tz30, tz31, tz32, tz33, tz34, tz35, tz36, tz37, tz38, tz39, tz40, tz41, tz42, tz43, tz44, tz45, tz46, tz47, tz48, tz49, tz50, tz51, tz52, tz53, tz54, tz55, tz56, tz57, tz58, tz59, tz60, tz61, tz62, tz63, tz64, tz65, tz66, tz67, tz68, tz69, tz70, tz71, tz72, tz73, tz74, tz75, tz76, tz77, tz78, tz79, tz80, tz81, tz82, tz83, tz84, tz85, tz86, tz87, tz88, tz89, tz90, tz91, tz92, tz93, tz94, tz95, tz96, tz97, tz98, tz99, tz100, tz101, tz102, tz103, tz104, tz105, tz106, tz107, tz108, tz109, tz110, tz111, tz112, tz113, tz114, tz115, tz116, tz117, tz118, tz119, tz120, tz121, tz122, tz123, tz124, tz125, tz126, tz127, tz128, tz129, tz130, tz131, tz132, tz133, tz134, tz135, tz136, tz137, tz138, tz139, tz140, tz141, tz142, tz143, tz144, tz145, tz146, tz147, tz148, tz149, tz150, tz151, tz152, tz153, tz154, tz155, tz156, tz157, tz158, tz159, tz160, tz161, tz162, tz163, tz164, tz165, tz166, tz167, tz168, tz169, tz170, tz171, tz172, tz173, tz174, tz175, tz176, tz177, tz178, tz179, tz180, tz181, tz182, tz183, tz184, tz185], []⟩ w := by
  simp only [rest32, Try.f3, Option.getD_some, cutC]
  have hn9 : (n : Int) ≤ 4096 := by omega
  have hn8 : (0 : Int) ≤ (n : Int) := by omega
  obtain ⟨c9_0_0, c9_0_1, lt9_0, y9_0, -⟩ := hO.k2 0 rfl
  obtain ⟨c9_3_0, c9_3_1, lt9_3, y9_3, -⟩ := hO.k2 3 rfl
  obtain ⟨c9_4_0, c9_4_1, lt9_4, y9_4, -⟩ := hO.k2 4 rfl
  have HO := Lib.hid hO
  clear hO
  go_wp2_with (first | (with_reducible refine Own.stay (fn := Try.f3) ?_) | fail)
  try with_reducible refine Own.Stay.mk ?_
  have hO := HO.out
  clear HO c9_0_0 c9_0_1 lt9_0 y9_0 c9_3_0 c9_3_1 lt9_3 y9_3 c9_4_0 c9_4_1 lt9_4 y9_4
  have hN : Own w0 w [row (tb) 35 #[dV D T, .int .i32 (lV T)], row (ub) 5 (itR U n), row (kb) 36 (clR D n 0), row (ba) 27 #[.int .u32 D.src, .int .u32 D.inn], row (bb) 27 #[.int .u32 D.src, .int .u32 D.inx]] Y := hO.sub [0, 1, 2, 3, 4] (by decide)
  clear hO
  have hO := hN
  clear hN
  go_loopg [20, 21] n (fun gf s20 s21 wx => ∃ i : Nat, i + gf = n ∧ s20 = .int .i64 (-1) ∧ s21 = .int .i64 (i : Int) ∧ (∀ q, q < i → D.kd q ≠ 1) ∧ Own w0 wx [row (tb) 35 #[dV D T, .int .i32 (lV T)], row (ub) 5 (itR U n), row (kb) 36 (clR D n 0), row (ba) 27 #[.int .u32 D.src, .int .u32 D.inn], row (bb) 27 #[.int .u32 D.src, .int .u32 D.inx]] Y)
  case atStart => exact ⟨0, by omega, rfl, rfl, fun q hq => absurd hq (Nat.not_lt_zero q), hO⟩
  obtain ⟨i, hin, rfl, rfl, hno, hO⟩ := hrel
  have hV : ∀ q, q ∈ T.flat → LeafIn Y D q := fun q hq => LvX.leaf hYL (by rw [hT] at hq; have := List.mem_range'.1 hq; omega)
  have hTl : T.flat.length = n := by rw [hT, List.length_range']
  by_cases hlt : i < n
  · skip
    obtain ⟨gq, rfl⟩ : ∃ gq, gk = gq + 1 := ⟨gk - 1, by omega⟩
    have hlt9 : (i : Int) < (n : Int) := by omega
    have hi8 : (0 : Int) ≤ (i : Int) := by omega
    have hku := hu9 i hlt
    have hki := hkd i hlt
    by_cases h1 : D.kd i = 1
    · skip
      have hrm : (U i : Int).tmod 3 = 1 := by rw [hki, h1]; rfl
      have h0 : ¬ D.kd i = 0 := by omega
      clear hki
      have hXk : Y (D.ad i) (.cells (callC (.iface 56 (.pointer (some ⟨(D.ib i), 0, none⟩))) (i : Int)) 46 (0, 0)) := hYL _ _ (Or.inr ⟨i, hlt, h0, Or.inl ⟨rfl, rfl⟩⟩)
      have hib : ∀ q, q < n → ¬ D.kd q = 0 → D.ib q ≠ D.ad i := fun q hq h9 => ident_ne hO (hYL _ _ (Or.inr ⟨q, hq, h9, Or.inr ⟨rfl, rfl⟩⟩)) hXk
      have hsp : T.flat = List.range' 0 i ++ i :: List.range' (i + 1) (n - i - 1) := by
        rw [hT, show n = i + ((n - i - 1) + 1) by omega, ← List.range'_append_1, List.range'_succ]
        simp
      obtain ⟨ix9, hix9, hax9, hjx9⟩ := hO.ix
      have ix9_0 : ix9 tb = 0 := hjx9 0 _ _ rfl
      have ix9_1 : ix9 ub = 1 := hjx9 1 _ _ rfl
      have ix9_2 : ix9 kb = 2 := hjx9 2 _ _ rfl
      have ix9_3 : ix9 ba = 3 := hjx9 3 _ _ rfl
      have ix9_4 : ix9 bb = 4 := hjx9 4 _ _ rfl
      clear hjx9
      obtain ⟨c9_0_0, c9_0_1, lt9_0, y9_0, -⟩ := hO.k2 0 rfl
      have c9_1_i : wr.cell? ⟨ub, i, none⟩ = some (.int .u8 (U i : Int)) := hO.cell 1 rfl (i) ((itR_get hlt))
      have lt9_1 : ub < wr.heap.size := hO.lt 1 rfl
      have y9_1 : ∀ o, wr.frozen? ⟨ub, o, none⟩ = false := hO.free 1 rfl
      obtain ⟨c9_3_0, c9_3_1, lt9_3, y9_3, pl9_3⟩ := hO.k2 3 rfl
      obtain ⟨c9_4_0, c9_4_1, lt9_4, y9_4, pl9_4⟩ := hO.k2 4 rfl
      have HO := Lib.hid hO
      clear hO
      go_wp2_with (first | (with_reducible refine Own.stay (fn := Try.f3) ?_) | fail)
      try with_reducible refine Own.Stay.mk ?_
      have hO := HO.out
      clear HO hix9 hax9 ix9_0 ix9_1 ix9_2 ix9_3 ix9_4 ix9 c9_0_0 c9_0_1 lt9_0 y9_0 c9_1_i lt9_1 y9_1 c9_3_0 c9_3_1 lt9_3 y9_3 pl9_3 c9_4_0 c9_4_1 lt9_4 y9_4 pl9_4
      have hL := hO.apart
      have hX := hO.apartX
      have HL := Lib.hid hL
      have HX := Lib.hid hX
      clear hL hX
      have hP9 := hO.pick [] (by decide)
      have h9_hT : T.flat = (List.range' 0 i) ++ i :: (List.range' (i + 1) (n - i - 1)) := hsp
      have h9_hA : ∀ i9, i9 ∈ (List.range' 0 i) → D.kd i9 ≠ 1 := (fun q hq => hno q (by have := List.mem_range'.1 hq; omega))
      have h9_hk1 : D.kd i = 1 := h1
      have T9 := doorF D i (List.range' 0 i) (List.range' (i + 1) (n - i - 1)) T _ _ _ hP9 (hN.mono fun _ _ h => Or.inl h) (fun q hq => (hV q hq).mono fun _ _ h => Or.inl h) h9_hT h9_hA h9_hk1 hne (Or.inl hXk)
      refine Calls.mono T9 ?_
      clear hP9 T9 h9_hT h9_hA h9_hk1
      rintro e uw1 ⟨nd2, nd3, rfl, hQ⟩
      have hN : Own w0 uw1 [row (tb) 35 #[dV D T, .int .i32 (lV T)], row (ub) 5 (itR U n), row (kb) 36 (clR D n 0), row (ba) 27 #[.int .u32 D.src, .int .u32 D.inn], row (bb) 27 #[.int .u32 D.src, .int .u32 D.inx]] (XF Y D i (List.range' 0 i) (List.range' (i + 1) (n - i - 1)) nd2 nd3) := hQ.backXF HL.out HX.out hXk (by
        intro r9 hr9
        simp only [List.mem_cons, List.not_mem_nil, or_false] at hr9
        rcases hr9 with rfl | rfl | rfl | rfl | rfl
        all_goals exact ⟨_, _, rfl, by decide⟩)
      clear hQ HL HX hO
      have hO := hN
      clear hN
      try simp only []
      have hx : (XF Y D i (List.range' 0 i) (List.range' (i + 1) (n - i - 1)) nd2 nd3) (D.ad i) (.cells (callC (.iface 67 (.pointer (some ⟨nd2, 0, none⟩))) (i : Int)) 46 (0, 0)) := Or.inr (Or.inl ⟨rfl, rfl⟩)
      have hLv9 : ∀ q : Nat, q < n → ¬ D.kd q = 0 → ((i : Int) = (q : Int) ∧ (XF Y D i (List.range' 0 i) (List.range' (i + 1) (n - i - 1)) nd2 nd3) (D.ad q) (.cells (callC (.iface 67 (.pointer (some ⟨nd2, 0, none⟩))) (q : Int)) 46 (0, 0))) ∨ (¬ (q : Int) = (i : Int) ∧ (XF Y D i (List.range' 0 i) (List.range' (i + 1) (n - i - 1)) nd2 nd3) (D.ad q) (.cells (callC (.iface 56 (.pointer (some ⟨(D.ib q), 0, none⟩))) (q : Int)) 46 (0, 0)) ∧ (XF Y D i (List.range' 0 i) (List.range' (i + 1) (n - i - 1)) nd2 nd3) (D.ib q) (.cells (idC D.src (D.inr q)) 58 (0, 0))) := by
        intro q hq h9
        by_cases e : q = i
        · subst e
          exact Or.inl ⟨rfl, hx⟩
        · refine Or.inr ⟨by omega, Or.inl ⟨hYL _ _ (Or.inr ⟨q, hq, h9, Or.inl ⟨rfl, rfl⟩⟩), ?_⟩, Or.inl ⟨hYL _ _ (Or.inr ⟨q, hq, h9, Or.inr ⟨rfl, rfl⟩⟩), hib q hq h9⟩⟩
          rcases Nat.lt_or_gt_of_ne e with h | h
          · exact hap q i h hlt h9 h0
          · exact (hap i q h hq h0 h9).symm
      have hfa := flat_bfA (List.range' 0 i) nd3
      have hfb := flat_afB (List.range' (i + 1) (n - i - 1)) nd3
      have hna : ∀ t, bfA (List.range' 0 i) nd3 = some t → NodesIn (XF Y D i (List.range' 0 i) (List.range' (i + 1) (n - i - 1)) nd2 nd3) D t := fun t ht b l r h => Or.inr (Or.inr ⟨t, l, r, Or.inl ht, h, rfl⟩)
      have hnb : ∀ t, afB (List.range' (i + 1) (n - i - 1)) nd3 = some t → NodesIn (XF Y D i (List.range' 0 i) (List.range' (i + 1) (n - i - 1)) nd2 nd3) D t := fun t ht b l r h => Or.inr (Or.inr ⟨t, l, r, Or.inr ht, h, rfl⟩)
      have HLV := Lib.hid hLv9
      have HKD := Lib.hid hkd
      have HNO := Lib.hid hno
      have HU9 := Lib.hid hu9
      have HK2 := Lib.hid hk2
      clear hLv9 hkd hno hu9 hk2
      cases hca : bfA (List.range' 0 i) nd3
      · skip
        rw [hca] at hfa
        cases hcb : afB (List.range' (i + 1) (n - i - 1)) nd3
        · skip
          rw [hcb] at hfb
          have hi0 : (i : Int) = 0 := by have := congrArg List.length (show [] = _ from hfa); rw [List.length_range'] at this; have h9 : ([] : List Nat).length = 0 := rfl; omega
          have HI0 := Lib.hid hi0
          clear hi0
          have hn0 : (n : Int) = (i : Int) + 1 := by have := congrArg List.length (show [] = _ from hfb); rw [List.length_range'] at this; have h9 : ([] : List Nat).length = 0 := rfl; omega
          have HN0 := Lib.hid hn0
          clear hn0
          have HFA := Lib.hid hfa
          have HFB := Lib.hid hfb
          have HNA := Lib.hid hna
          have HNB := Lib.hid hnb
          clear hfa hfb hna hnb
          obtain ⟨ix9, hix9, hax9, hjx9⟩ := hO.ix
          have ix9_0 : ix9 tb = 0 := hjx9 0 _ _ rfl
          have ix9_1 : ix9 ub = 1 := hjx9 1 _ _ rfl
          have ix9_2 : ix9 kb = 2 := hjx9 2 _ _ rfl
          have ix9_3 : ix9 ba = 3 := hjx9 3 _ _ rfl
          have ix9_4 : ix9 bb = 4 := hjx9 4 _ _ rfl
          clear hjx9
          obtain ⟨c9_0_0, c9_0_1, lt9_0, y9_0, -⟩ := hO.k2 0 rfl
          have c9_2_i : uw1.cell? ⟨kb, i, none⟩ = some (.pointer (some ⟨D.ad i, 0, none⟩)) := hO.cell 2 rfl (i) (((clR_get 0 hlt).trans (congrArg some (clD_call h0))))
          have lt9_2 : kb < uw1.heap.size := hO.lt 2 rfl
          have y9_2 : ∀ o, uw1.frozen? ⟨kb, o, none⟩ = false := hO.free 2 rfl
          obtain ⟨c9_3_0, c9_3_1, lt9_3, y9_3, pl9_3⟩ := hO.k2 3 rfl
          obtain ⟨c9_4_0, c9_4_1, lt9_4, y9_4, pl9_4⟩ := hO.k2 4 rfl
          have HO := Lib.hid hO
          clear hO
          have fx0_0 : uw1.cell? ⟨D.ad i, 0, none⟩ = some (.iface 67 (.pointer (some ⟨nd2, 0, none⟩))) := HO.out.fcell hx 0 rfl
          have fx0_1 : uw1.cell? ⟨D.ad i, 1, none⟩ = some (.int .i32 (i : Int)) := HO.out.fcell hx 1 rfl
          have fx0_2 : uw1.cell? ⟨D.ad i, 2, none⟩ = some (.slice none 0 0) := HO.out.fcell hx 2 rfl
          have fx0_3 : uw1.cell? ⟨D.ad i, 3, none⟩ = some (.int .i32 0) := HO.out.fcell hx 3 rfl
          have fx0_4 : uw1.cell? ⟨D.ad i, 4, none⟩ = some (.int .u8 0) := HO.out.fcell hx 4 rfl
          have fx0_5 : uw1.cell? ⟨D.ad i, 5, none⟩ = some (.int .u8 0) := HO.out.fcell hx 5 rfl
          have fx0_6 : uw1.cell? ⟨D.ad i, 6, none⟩ = some (.bool false) := HO.out.fcell hx 6 rfl
          have fx0_7 : uw1.cell? ⟨D.ad i, 7, none⟩ = some (.bool false) := HO.out.fcell hx 7 rfl
          go_wp2_with (first | (with_reducible refine Own.stay (fn := Try.f3) ?_) | fail)
          try with_reducible refine Own.Stay.mk ?_
          have hO := HO.out
          clear HO hix9 hax9 ix9_0 ix9_1 ix9_2 ix9_3 ix9_4 ix9 fx0_0 fx0_1 fx0_2 fx0_3 fx0_4 fx0_5 fx0_6 fx0_7 c9_0_0 c9_0_1 lt9_0 y9_0 c9_2_i lt9_2 y9_2 c9_3_0 c9_3_1 lt9_3 y9_3 pl9_3 c9_4_0 c9_4_1 lt9_4 y9_4 pl9_4
          generalize hW : World.alloc _ _ = W5
          have hN : Own w0 W5 [row (uw1.heap.size + 1 + 1) 35 #[dO D none, .int .i32 (lO none)], row (uw1.heap.size + 1) 33 #[.int .i32 (i : Int)], row (uw1.heap.size) 35 #[dO D none, .int .i32 (lO none)], row (tb) 35 #[dV D T, .int .i32 (lV T)], row (ub) 5 (itR U n), row (kb) 36 (clR D n 0), row (ba) 27 #[.int .u32 D.src, .int .u32 D.inn], row (bb) 27 #[.int .u32 D.src, .int .u32 D.inx]] (XF Y D i (List.range' 0 i) (List.range' (i + 1) (n - i - 1)) nd2 nd3) := by
            rw [← hW]
            exact (((hO).alloc' _ (uw1.heap.size) (by simp)).alloc' _ (uw1.heap.size + 1) (by simp)).alloc' _ (uw1.heap.size + 1 + 1) (by simp)
          clear hW hO
          generalize uw1.heap.size + 1 + 1 = B4_2 at hN ⊢
          generalize uw1.heap.size + 1 = B4_1 at hN ⊢
          generalize uw1.heap.size = B4 at hN ⊢
          have hO := hN
          clear hN
          have hL := hO.apart
          have hX := hO.apartX
          have HL := Lib.hid hL
          have HX := Lib.hid hX
          clear hL hX
          have hP9 := hO.pick [] (by decide)
          have T9 := isSup1 nd2 (i : Int) _ _ _ hP9 
          refine Calls.mono T9 ?_
          clear hP9 T9
          rintro e uw6 ⟨rfl, hQ⟩
          have hN : Own w0 uw6 [row (B4_2) 35 #[dO D none, .int .i32 (lO none)], row (B4_1) 33 #[.int .i32 (i : Int)], row (B4) 35 #[dO D none, .int .i32 (lO none)], row (tb) 35 #[dV D T, .int .i32 (lV T)], row (ub) 5 (itR U n), row (kb) 36 (clR D n 0), row (ba) 27 #[.int .u32 D.src, .int .u32 D.inn], row (bb) 27 #[.int .u32 D.src, .int .u32 D.inx]] (XF Y D i (List.range' 0 i) (List.range' (i + 1) (n - i - 1)) nd2 nd3) := hQ.back HL.out HX.out [0, 1, 2, 3, 4, 5, 6, 7] (by decide) (by decide)
          clear hQ HL HX hO
          have hO := hN
          clear hN
          try simp only []
          obtain ⟨c9_0_0, c9_0_1, lt9_0, y9_0, -⟩ := hO.k2 0 rfl
          obtain ⟨c9_1_0, lt9_1, y9_1, -⟩ := hO.k1 1 rfl
          obtain ⟨c9_2_0, c9_2_1, lt9_2, y9_2, -⟩ := hO.k2 2 rfl
          obtain ⟨c9_3_0, c9_3_1, lt9_3, y9_3, -⟩ := hO.k2 3 rfl
          obtain ⟨c9_6_0, c9_6_1, lt9_6, y9_6, -⟩ := hO.k2 6 rfl
          obtain ⟨c9_7_0, c9_7_1, lt9_7, y9_7, -⟩ := hO.k2 7 rfl
          have HO := Lib.hid hO
          clear hO
          have fx0_0 : uw6.cell? ⟨D.ad i, 0, none⟩ = some (.iface 67 (.pointer (some ⟨nd2, 0, none⟩))) := HO.out.fcell hx 0 rfl
          have fx0_1 : uw6.cell? ⟨D.ad i, 1, none⟩ = some (.int .i32 (i : Int)) := HO.out.fcell hx 1 rfl
          have fx0_2 : uw6.cell? ⟨D.ad i, 2, none⟩ = some (.slice none 0 0) := HO.out.fcell hx 2 rfl
          have fx0_3 : uw6.cell? ⟨D.ad i, 3, none⟩ = some (.int .i32 0) := HO.out.fcell hx 3 rfl
          have fx0_4 : uw6.cell? ⟨D.ad i, 4, none⟩ = some (.int .u8 0) := HO.out.fcell hx 4 rfl
          have fx0_5 : uw6.cell? ⟨D.ad i, 5, none⟩ = some (.int .u8 0) := HO.out.fcell hx 5 rfl
          have fx0_6 : uw6.cell? ⟨D.ad i, 6, none⟩ = some (.bool false) := HO.out.fcell hx 6 rfl
          have fx0_7 : uw6.cell? ⟨D.ad i, 7, none⟩ = some (.bool false) := HO.out.fcell hx 7 rfl
          go_wp2_with (first | (with_reducible refine Own.stay (fn := Try.f3) ?_) | fail)
          try with_reducible refine Own.Stay.mk ?_
          have hO := HO.out
          clear HO fx0_0 fx0_1 fx0_2 fx0_3 fx0_4 fx0_5 fx0_6 fx0_7 c9_0_0 c9_0_1 lt9_0 y9_0 c9_1_0 lt9_1 y9_1 c9_2_0 c9_2_1 lt9_2 y9_2 c9_3_0 c9_3_1 lt9_3 y9_3 c9_6_0 c9_6_1 lt9_6 y9_6 c9_7_0 c9_7_1 lt9_7 y9_7
          have hL := hO.apart
          have hX := hO.apartX
          have HL := Lib.hid hL
          have HX := Lib.hid hX
          clear hL hX
          have hP9 := hO.pick [] (by decide)
          have T9 := flatZO D _ _ _ hP9 
          refine Calls.mono T9 ?_
          clear hP9 T9
          rintro e uw7 ⟨rfl, hQ⟩
          have hN : Own w0 uw7 [row (B4_2) 35 #[dO D none, .int .i32 (lO none)], row (B4_1) 33 #[.int .i32 (i : Int)], row (B4) 35 #[dO D none, .int .i32 (lO none)], row (tb) 35 #[dV D T, .int .i32 (lV T)], row (ub) 5 (itR U n), row (kb) 36 (clR D n 0), row (ba) 27 #[.int .u32 D.src, .int .u32 D.inn], row (bb) 27 #[.int .u32 D.src, .int .u32 D.inx]] (XF Y D i (List.range' 0 i) (List.range' (i + 1) (n - i - 1)) nd2 nd3) := hQ.back HL.out HX.out [0, 1, 2, 3, 4, 5, 6, 7] (by decide) (by decide)
          clear hQ HL HX hO
          have hO := hN
          clear hN
          try simp only []
          obtain ⟨c9_0_0, c9_0_1, lt9_0, y9_0, -⟩ := hO.k2 0 rfl
          obtain ⟨c9_1_0, lt9_1, y9_1, -⟩ := hO.k1 1 rfl
          obtain ⟨c9_2_0, c9_2_1, lt9_2, y9_2, -⟩ := hO.k2 2 rfl
          obtain ⟨c9_3_0, c9_3_1, lt9_3, y9_3, -⟩ := hO.k2 3 rfl
          obtain ⟨c9_6_0, c9_6_1, lt9_6, y9_6, -⟩ := hO.k2 6 rfl
          obtain ⟨c9_7_0, c9_7_1, lt9_7, y9_7, -⟩ := hO.k2 7 rfl
          have HO := Lib.hid hO
          clear hO
          have fx0_0 : uw7.cell? ⟨D.ad i, 0, none⟩ = some (.iface 67 (.pointer (some ⟨nd2, 0, none⟩))) := HO.out.fcell hx 0 rfl
          have fx0_1 : uw7.cell? ⟨D.ad i, 1, none⟩ = some (.int .i32 (i : Int)) := HO.out.fcell hx 1 rfl
          have fx0_2 : uw7.cell? ⟨D.ad i, 2, none⟩ = some (.slice none 0 0) := HO.out.fcell hx 2 rfl
          have fx0_3 : uw7.cell? ⟨D.ad i, 3, none⟩ = some (.int .i32 0) := HO.out.fcell hx 3 rfl
          have fx0_4 : uw7.cell? ⟨D.ad i, 4, none⟩ = some (.int .u8 0) := HO.out.fcell hx 4 rfl
          have fx0_5 : uw7.cell? ⟨D.ad i, 5, none⟩ = some (.int .u8 0) := HO.out.fcell hx 5 rfl
          have fx0_6 : uw7.cell? ⟨D.ad i, 6, none⟩ = some (.bool false) := HO.out.fcell hx 6 rfl
          have fx0_7 : uw7.cell? ⟨D.ad i, 7, none⟩ = some (.bool false) := HO.out.fcell hx 7 rfl
          go_wp2_with (first | (with_reducible refine Own.stay (fn := Try.f3) ?_) | fail)
          try with_reducible refine Own.Stay.mk ?_
          have hO := HO.out
          clear HO fx0_0 fx0_1 fx0_2 fx0_3 fx0_4 fx0_5 fx0_6 fx0_7 c9_0_0 c9_0_1 lt9_0 y9_0 c9_1_0 lt9_1 y9_1 c9_2_0 c9_2_1 lt9_2 y9_2 c9_3_0 c9_3_1 lt9_3 y9_3 c9_6_0 c9_6_1 lt9_6 y9_6 c9_7_0 c9_7_1 lt9_7 y9_7
          have hL := hO.apart
          have hX := hO.apartX
          have HL := Lib.hid hL
          have HX := Lib.hid hX
          clear hL hX
          have hP9 := hO.pick [] (by decide)
          have h9_heq : (i : Int) = 0 := HI0.out
          have T9 := isRng0b 0 (i : Int) _ _ _ hP9 h9_heq (by omega) (by omega)
          refine Calls.mono T9 ?_
          clear hP9 T9 h9_heq
          rintro e uw8 ⟨rfl, hQ⟩
          have hN : Own w0 uw8 [row (B4_2) 35 #[dO D none, .int .i32 (lO none)], row (B4_1) 33 #[.int .i32 (i : Int)], row (B4) 35 #[dO D none, .int .i32 (lO none)], row (tb) 35 #[dV D T, .int .i32 (lV T)], row (ub) 5 (itR U n), row (kb) 36 (clR D n 0), row (ba) 27 #[.int .u32 D.src, .int .u32 D.inn], row (bb) 27 #[.int .u32 D.src, .int .u32 D.inx]] (XF Y D i (List.range' 0 i) (List.range' (i + 1) (n - i - 1)) nd2 nd3) := hQ.back HL.out HX.out [0, 1, 2, 3, 4, 5, 6, 7] (by decide) (by decide)
          clear hQ HL HX hO
          have hO := hN
          clear hN
          try simp only []
          obtain ⟨c9_0_0, c9_0_1, lt9_0, y9_0, -⟩ := hO.k2 0 rfl
          obtain ⟨c9_1_0, lt9_1, y9_1, -⟩ := hO.k1 1 rfl
          obtain ⟨c9_2_0, c9_2_1, lt9_2, y9_2, -⟩ := hO.k2 2 rfl
          obtain ⟨c9_3_0, c9_3_1, lt9_3, y9_3, -⟩ := hO.k2 3 rfl
          obtain ⟨c9_6_0, c9_6_1, lt9_6, y9_6, -⟩ := hO.k2 6 rfl
          obtain ⟨c9_7_0, c9_7_1, lt9_7, y9_7, -⟩ := hO.k2 7 rfl
          have HO := Lib.hid hO
          clear hO
          have fx0_0 : uw8.cell? ⟨D.ad i, 0, none⟩ = some (.iface 67 (.pointer (some ⟨nd2, 0, none⟩))) := HO.out.fcell hx 0 rfl
          have fx0_1 : uw8.cell? ⟨D.ad i, 1, none⟩ = some (.int .i32 (i : Int)) := HO.out.fcell hx 1 rfl
          have fx0_2 : uw8.cell? ⟨D.ad i, 2, none⟩ = some (.slice none 0 0) := HO.out.fcell hx 2 rfl
          have fx0_3 : uw8.cell? ⟨D.ad i, 3, none⟩ = some (.int .i32 0) := HO.out.fcell hx 3 rfl
          have fx0_4 : uw8.cell? ⟨D.ad i, 4, none⟩ = some (.int .u8 0) := HO.out.fcell hx 4 rfl
          have fx0_5 : uw8.cell? ⟨D.ad i, 5, none⟩ = some (.int .u8 0) := HO.out.fcell hx 5 rfl
          have fx0_6 : uw8.cell? ⟨D.ad i, 6, none⟩ = some (.bool false) := HO.out.fcell hx 6 rfl
          have fx0_7 : uw8.cell? ⟨D.ad i, 7, none⟩ = some (.bool false) := HO.out.fcell hx 7 rfl
          go_wp2_with (first | (with_reducible refine Own.stay (fn := Try.f3) ?_) | fail)
          try with_reducible refine Own.Stay.mk ?_
          have hO := HO.out
          clear HO fx0_0 fx0_1 fx0_2 fx0_3 fx0_4 fx0_5 fx0_6 fx0_7 c9_0_0 c9_0_1 lt9_0 y9_0 c9_1_0 lt9_1 y9_1 c9_2_0 c9_2_1 lt9_2 y9_2 c9_3_0 c9_3_1 lt9_3 y9_3 c9_6_0 c9_6_1 lt9_6 y9_6 c9_7_0 c9_7_1 lt9_7 y9_7
          have hL := hO.apart
          have hX := hO.apartX
          have HL := Lib.hid hL
          have HX := Lib.hid hX
          clear hL hX
          have hP9 := hO.pick [] (by decide)
          have T9 := flatZO D _ _ _ hP9 
          refine Calls.mono T9 ?_
          clear hP9 T9
          rintro e uw9 ⟨rfl, hQ⟩
          have hN : Own w0 uw9 [row (B4_2) 35 #[dO D none, .int .i32 (lO none)], row (B4_1) 33 #[.int .i32 (i : Int)], row (B4) 35 #[dO D none, .int .i32 (lO none)], row (tb) 35 #[dV D T, .int .i32 (lV T)], row (ub) 5 (itR U n), row (kb) 36 (clR D n 0), row (ba) 27 #[.int .u32 D.src, .int .u32 D.inn], row (bb) 27 #[.int .u32 D.src, .int .u32 D.inx]] (XF Y D i (List.range' 0 i) (List.range' (i + 1) (n - i - 1)) nd2 nd3) := hQ.back HL.out HX.out [0, 1, 2, 3, 4, 5, 6, 7] (by decide) (by decide)
          clear hQ HL HX hO
          have hO := hN
          clear hN
          try simp only []
          obtain ⟨c9_0_0, c9_0_1, lt9_0, y9_0, -⟩ := hO.k2 0 rfl
          obtain ⟨c9_1_0, lt9_1, y9_1, -⟩ := hO.k1 1 rfl
          obtain ⟨c9_2_0, c9_2_1, lt9_2, y9_2, -⟩ := hO.k2 2 rfl
          obtain ⟨c9_3_0, c9_3_1, lt9_3, y9_3, -⟩ := hO.k2 3 rfl
          obtain ⟨c9_6_0, c9_6_1, lt9_6, y9_6, -⟩ := hO.k2 6 rfl
          obtain ⟨c9_7_0, c9_7_1, lt9_7, y9_7, -⟩ := hO.k2 7 rfl
          have HO := Lib.hid hO
          clear hO
          have fx0_0 : uw9.cell? ⟨D.ad i, 0, none⟩ = some (.iface 67 (.pointer (some ⟨nd2, 0, none⟩))) := HO.out.fcell hx 0 rfl
          have fx0_1 : uw9.cell? ⟨D.ad i, 1, none⟩ = some (.int .i32 (i : Int)) := HO.out.fcell hx 1 rfl
          have fx0_2 : uw9.cell? ⟨D.ad i, 2, none⟩ = some (.slice none 0 0) := HO.out.fcell hx 2 rfl
          have fx0_3 : uw9.cell? ⟨D.ad i, 3, none⟩ = some (.int .i32 0) := HO.out.fcell hx 3 rfl
          have fx0_4 : uw9.cell? ⟨D.ad i, 4, none⟩ = some (.int .u8 0) := HO.out.fcell hx 4 rfl
          have fx0_5 : uw9.cell? ⟨D.ad i, 5, none⟩ = some (.int .u8 0) := HO.out.fcell hx 5 rfl
          have fx0_6 : uw9.cell? ⟨D.ad i, 6, none⟩ = some (.bool false) := HO.out.fcell hx 6 rfl
          have fx0_7 : uw9.cell? ⟨D.ad i, 7, none⟩ = some (.bool false) := HO.out.fcell hx 7 rfl
          go_wp2_with (first | (with_reducible refine Own.stay (fn := Try.f3) ?_) | fail)
          try with_reducible refine Own.Stay.mk ?_
          have hO := HO.out
          clear HO fx0_0 fx0_1 fx0_2 fx0_3 fx0_4 fx0_5 fx0_6 fx0_7 c9_0_0 c9_0_1 lt9_0 y9_0 c9_1_0 lt9_1 y9_1 c9_2_0 c9_2_1 lt9_2 y9_2 c9_3_0 c9_3_1 lt9_3 y9_3 c9_6_0 c9_6_1 lt9_6 y9_6 c9_7_0 c9_7_1 lt9_7 y9_7
          have hL := hO.apart
          have hX := hO.apartX
          have HL := Lib.hid hL
          have HX := Lib.hid hX
          clear hL hX
          have hP9 := hO.pick [] (by decide)
          have h9_heq : (n : Int) = ((i : Int) + 1) := HN0.out
          have h9_hlo : 0 ≤ ((i : Int) + 1) := (by omega)
          have h9_hlo9 : ((i : Int) + 1) ≤ 5000 := (by omega)
          have T9 := isRng0b ((i : Int) + 1) (n : Int) _ _ _ hP9 h9_heq h9_hlo h9_hlo9
          refine Calls.mono T9 ?_
          clear hP9 T9 h9_heq h9_hlo h9_hlo9
          rintro e uw10 ⟨rfl, hQ⟩
          have hN : Own w0 uw10 [row (B4_2) 35 #[dO D none, .int .i32 (lO none)], row (B4_1) 33 #[.int .i32 (i : Int)], row (B4) 35 #[dO D none, .int .i32 (lO none)], row (tb) 35 #[dV D T, .int .i32 (lV T)], row (ub) 5 (itR U n), row (kb) 36 (clR D n 0), row (ba) 27 #[.int .u32 D.src, .int .u32 D.inn], row (bb) 27 #[.int .u32 D.src, .int .u32 D.inx]] (XF Y D i (List.range' 0 i) (List.range' (i + 1) (n - i - 1)) nd2 nd3) := hQ.back HL.out HX.out [0, 1, 2, 3, 4, 5, 6, 7] (by decide) (by decide)
          clear hQ HL HX hO
          have hO := hN
          clear hN
          try simp only []
          obtain ⟨c9_0_0, c9_0_1, lt9_0, y9_0, -⟩ := hO.k2 0 rfl
          obtain ⟨c9_1_0, lt9_1, y9_1, -⟩ := hO.k1 1 rfl
          obtain ⟨c9_2_0, c9_2_1, lt9_2, y9_2, -⟩ := hO.k2 2 rfl
          obtain ⟨c9_3_0, c9_3_1, lt9_3, y9_3, -⟩ := hO.k2 3 rfl
          obtain ⟨c9_6_0, c9_6_1, lt9_6, y9_6, -⟩ := hO.k2 6 rfl
          obtain ⟨c9_7_0, c9_7_1, lt9_7, y9_7, -⟩ := hO.k2 7 rfl
          have HO := Lib.hid hO
          clear hO
          have fx0_0 : uw10.cell? ⟨D.ad i, 0, none⟩ = some (.iface 67 (.pointer (some ⟨nd2, 0, none⟩))) := HO.out.fcell hx 0 rfl
          have fx0_1 : uw10.cell? ⟨D.ad i, 1, none⟩ = some (.int .i32 (i : Int)) := HO.out.fcell hx 1 rfl
          have fx0_2 : uw10.cell? ⟨D.ad i, 2, none⟩ = some (.slice none 0 0) := HO.out.fcell hx 2 rfl
          have fx0_3 : uw10.cell? ⟨D.ad i, 3, none⟩ = some (.int .i32 0) := HO.out.fcell hx 3 rfl
          have fx0_4 : uw10.cell? ⟨D.ad i, 4, none⟩ = some (.int .u8 0) := HO.out.fcell hx 4 rfl
          have fx0_5 : uw10.cell? ⟨D.ad i, 5, none⟩ = some (.int .u8 0) := HO.out.fcell hx 5 rfl
          have fx0_6 : uw10.cell? ⟨D.ad i, 6, none⟩ = some (.bool false) := HO.out.fcell hx 6 rfl
          have fx0_7 : uw10.cell? ⟨D.ad i, 7, none⟩ = some (.bool false) := HO.out.fcell hx 7 rfl
          go_wp2_with (first | (with_reducible refine Own.stay (fn := Try.f3) ?_) | fail)
          try with_reducible refine Own.Stay.mk ?_
          have hO := HO.out
          clear HO fx0_0 fx0_1 fx0_2 fx0_3 fx0_4 fx0_5 fx0_6 fx0_7 c9_0_0 c9_0_1 lt9_0 y9_0 c9_1_0 lt9_1 y9_1 c9_2_0 c9_2_1 lt9_2 y9_2 c9_3_0 c9_3_1 lt9_3 y9_3 c9_6_0 c9_6_1 lt9_6 y9_6 c9_7_0 c9_7_1 lt9_7 y9_7
          have hL := hO.apart
          have hX := hO.apartX
          have HL := Lib.hid hL
          have HX := Lib.hid hX
          clear hL hX
          have hP9 := hO.pick [4, 5] (by decide)
          have T9 := callsUn D U n ub kb (i : Int) nd2 _ _ _ hP9 hn4 HU9.out HKD.out HK2.out (fun q hq h9 => (HLV.out q hq h9).imp (fun h => ⟨h.1, Or.inl h.2⟩) (fun h => ⟨h.1, Or.inl h.2.1, Or.inl h.2.2⟩))
          refine Calls.mono T9 ?_
          clear hP9 T9
          rintro e uw11 ⟨rfl, hQ⟩
          have hN : Own w0 uw11 [row (ub) 5 (itR U n), row (kb) 36 (clR D n 0), row (B4_2) 35 #[dO D none, .int .i32 (lO none)], row (B4_1) 33 #[.int .i32 (i : Int)], row (B4) 35 #[dO D none, .int .i32 (lO none)], row (tb) 35 #[dV D T, .int .i32 (lV T)], row (ba) 27 #[.int .u32 D.src, .int .u32 D.inn], row (bb) 27 #[.int .u32 D.src, .int .u32 D.inx]] (XF Y D i (List.range' 0 i) (List.range' (i + 1) (n - i - 1)) nd2 nd3) := hQ.back HL.out HX.out [0, 1, 2, 3, 6, 7] (by decide) (by decide)
          clear hQ HL HX hO
          have hO := hN
          clear hN
          try simp only []
          obtain ⟨c9_2_0, c9_2_1, lt9_2, y9_2, -⟩ := hO.k2 2 rfl
          obtain ⟨c9_3_0, lt9_3, y9_3, -⟩ := hO.k1 3 rfl
          obtain ⟨c9_4_0, c9_4_1, lt9_4, y9_4, -⟩ := hO.k2 4 rfl
          obtain ⟨c9_5_0, c9_5_1, lt9_5, y9_5, -⟩ := hO.k2 5 rfl
          obtain ⟨c9_6_0, c9_6_1, lt9_6, y9_6, -⟩ := hO.k2 6 rfl
          obtain ⟨c9_7_0, c9_7_1, lt9_7, y9_7, -⟩ := hO.k2 7 rfl
          have HO := Lib.hid hO
          clear hO
          have fx0_0 : uw11.cell? ⟨D.ad i, 0, none⟩ = some (.iface 67 (.pointer (some ⟨nd2, 0, none⟩))) := HO.out.fcell hx 0 rfl
          have fx0_1 : uw11.cell? ⟨D.ad i, 1, none⟩ = some (.int .i32 (i : Int)) := HO.out.fcell hx 1 rfl
          have fx0_2 : uw11.cell? ⟨D.ad i, 2, none⟩ = some (.slice none 0 0) := HO.out.fcell hx 2 rfl
          have fx0_3 : uw11.cell? ⟨D.ad i, 3, none⟩ = some (.int .i32 0) := HO.out.fcell hx 3 rfl
          have fx0_4 : uw11.cell? ⟨D.ad i, 4, none⟩ = some (.int .u8 0) := HO.out.fcell hx 4 rfl
          have fx0_5 : uw11.cell? ⟨D.ad i, 5, none⟩ = some (.int .u8 0) := HO.out.fcell hx 5 rfl
          have fx0_6 : uw11.cell? ⟨D.ad i, 6, none⟩ = some (.bool false) := HO.out.fcell hx 6 rfl
          have fx0_7 : uw11.cell? ⟨D.ad i, 7, none⟩ = some (.bool false) := HO.out.fcell hx 7 rfl
          go_wp2_with (first | (with_reducible refine Own.stay (fn := Try.f3) ?_) | fail)
          try with_reducible refine Own.Stay.mk ?_
          have hO := HO.out
          clear HO fx0_0 fx0_1 fx0_2 fx0_3 fx0_4 fx0_5 fx0_6 fx0_7 c9_2_0 c9_2_1 lt9_2 y9_2 c9_3_0 lt9_3 y9_3 c9_4_0 c9_4_1 lt9_4 y9_4 c9_5_0 c9_5_1 lt9_5 y9_5 c9_6_0 c9_6_1 lt9_6 y9_6 c9_7_0 c9_7_1 lt9_7 y9_7
          have hO : Below w0.heap.size w0 uw11 := hO.below
          refine bodyPost_ret (v := .bool true) ?_ rfl ⟨rfl, hO⟩
          simp [results, go_sem]
        · skip
          rename_i tb9
          rw [hcb] at hfb
          have hi0 : (i : Int) = 0 := by have := congrArg List.length (show [] = _ from hfa); rw [List.length_range'] at this; have h9 : ([] : List Nat).length = 0 := rfl; omega
          have HI0 := Lib.hid hi0
          clear hi0
          have hlb : tb9.flat.length = n - i - 1 := (congrArg List.length (show tb9.flat = _ from hfb)).trans List.length_range'
          have hNb := hnb tb9 hcb
          have hfb2 : tb9.flat = _ := hfb
          have HFB2 := Lib.hid hfb2
          have HLB := Lib.hid hlb
          clear hfb2 hlb
          have HFA := Lib.hid hfa
          have HFB := Lib.hid hfb
          have HNA := Lib.hid hna
          have HNB := Lib.hid hnb
          clear hfa hfb hna hnb
          obtain ⟨ix9, hix9, hax9, hjx9⟩ := hO.ix
          have ix9_0 : ix9 tb = 0 := hjx9 0 _ _ rfl
          have ix9_1 : ix9 ub = 1 := hjx9 1 _ _ rfl
          have ix9_2 : ix9 kb = 2 := hjx9 2 _ _ rfl
          have ix9_3 : ix9 ba = 3 := hjx9 3 _ _ rfl
          have ix9_4 : ix9 bb = 4 := hjx9 4 _ _ rfl
          clear hjx9
          obtain ⟨c9_0_0, c9_0_1, lt9_0, y9_0, -⟩ := hO.k2 0 rfl
          have c9_2_i : uw1.cell? ⟨kb, i, none⟩ = some (.pointer (some ⟨D.ad i, 0, none⟩)) := hO.cell 2 rfl (i) (((clR_get 0 hlt).trans (congrArg some (clD_call h0))))
          have lt9_2 : kb < uw1.heap.size := hO.lt 2 rfl
          have y9_2 : ∀ o, uw1.frozen? ⟨kb, o, none⟩ = false := hO.free 2 rfl
          obtain ⟨c9_3_0, c9_3_1, lt9_3, y9_3, pl9_3⟩ := hO.k2 3 rfl
          obtain ⟨c9_4_0, c9_4_1, lt9_4, y9_4, pl9_4⟩ := hO.k2 4 rfl
          have HO := Lib.hid hO
          clear hO
          have fx0_0 : uw1.cell? ⟨D.ad i, 0, none⟩ = some (.iface 67 (.pointer (some ⟨nd2, 0, none⟩))) := HO.out.fcell hx 0 rfl
          have fx0_1 : uw1.cell? ⟨D.ad i, 1, none⟩ = some (.int .i32 (i : Int)) := HO.out.fcell hx 1 rfl
          have fx0_2 : uw1.cell? ⟨D.ad i, 2, none⟩ = some (.slice none 0 0) := HO.out.fcell hx 2 rfl
          have fx0_3 : uw1.cell? ⟨D.ad i, 3, none⟩ = some (.int .i32 0) := HO.out.fcell hx 3 rfl
          have fx0_4 : uw1.cell? ⟨D.ad i, 4, none⟩ = some (.int .u8 0) := HO.out.fcell hx 4 rfl
          have fx0_5 : uw1.cell? ⟨D.ad i, 5, none⟩ = some (.int .u8 0) := HO.out.fcell hx 5 rfl
          have fx0_6 : uw1.cell? ⟨D.ad i, 6, none⟩ = some (.bool false) := HO.out.fcell hx 6 rfl
          have fx0_7 : uw1.cell? ⟨D.ad i, 7, none⟩ = some (.bool false) := HO.out.fcell hx 7 rfl
          go_wp2_with (first | (with_reducible refine Own.stay (fn := Try.f3) ?_) | fail)
          try with_reducible refine Own.Stay.mk ?_
          have hO := HO.out
          clear HO hix9 hax9 ix9_0 ix9_1 ix9_2 ix9_3 ix9_4 ix9 fx0_0 fx0_1 fx0_2 fx0_3 fx0_4 fx0_5 fx0_6 fx0_7 c9_0_0 c9_0_1 lt9_0 y9_0 c9_2_i lt9_2 y9_2 c9_3_0 c9_3_1 lt9_3 y9_3 pl9_3 c9_4_0 c9_4_1 lt9_4 y9_4 pl9_4
          generalize hW : World.alloc _ _ = W13
          have hN : Own w0 W13 [row (uw1.heap.size + 1 + 1) 35 #[dO D (some tb9), .int .i32 (lO (some tb9))], row (uw1.heap.size + 1) 33 #[.int .i32 (i : Int)], row (uw1.heap.size) 35 #[dO D none, .int .i32 (lO none)], row (tb) 35 #[dV D T, .int .i32 (lV T)], row (ub) 5 (itR U n), row (kb) 36 (clR D n 0), row (ba) 27 #[.int .u32 D.src, .int .u32 D.inn], row (bb) 27 #[.int .u32 D.src, .int .u32 D.inx]] (XF Y D i (List.range' 0 i) (List.range' (i + 1) (n - i - 1)) nd2 nd3) := by
            rw [← hW]
            exact (((hO).alloc' _ (uw1.heap.size) (by simp)).alloc' _ (uw1.heap.size + 1) (by simp)).alloc' _ (uw1.heap.size + 1 + 1) (by simp)
          clear hW hO
          generalize uw1.heap.size + 1 + 1 = B12_2 at hN ⊢
          generalize uw1.heap.size + 1 = B12_1 at hN ⊢
          generalize uw1.heap.size = B12 at hN ⊢
          have hO := hN
          clear hN
          have hL := hO.apart
          have hX := hO.apartX
          have HL := Lib.hid hL
          have HX := Lib.hid hX
          clear hL hX
          have hP9 := hO.pick [] (by decide)
          have T9 := isSup1 nd2 (i : Int) _ _ _ hP9 
          refine Calls.mono T9 ?_
          clear hP9 T9
          rintro e uw14 ⟨rfl, hQ⟩
          have hN : Own w0 uw14 [row (B12_2) 35 #[dO D (some tb9), .int .i32 (lO (some tb9))], row (B12_1) 33 #[.int .i32 (i : Int)], row (B12) 35 #[dO D none, .int .i32 (lO none)], row (tb) 35 #[dV D T, .int .i32 (lV T)], row (ub) 5 (itR U n), row (kb) 36 (clR D n 0), row (ba) 27 #[.int .u32 D.src, .int .u32 D.inn], row (bb) 27 #[.int .u32 D.src, .int .u32 D.inx]] (XF Y D i (List.range' 0 i) (List.range' (i + 1) (n - i - 1)) nd2 nd3) := hQ.back HL.out HX.out [0, 1, 2, 3, 4, 5, 6, 7] (by decide) (by decide)
          clear hQ HL HX hO
          have hO := hN
          clear hN
          try simp only []
          obtain ⟨c9_0_0, c9_0_1, lt9_0, y9_0, -⟩ := hO.k2 0 rfl
          obtain ⟨c9_1_0, lt9_1, y9_1, -⟩ := hO.k1 1 rfl
          obtain ⟨c9_2_0, c9_2_1, lt9_2, y9_2, -⟩ := hO.k2 2 rfl
          obtain ⟨c9_3_0, c9_3_1, lt9_3, y9_3, -⟩ := hO.k2 3 rfl
          obtain ⟨c9_6_0, c9_6_1, lt9_6, y9_6, -⟩ := hO.k2 6 rfl
          obtain ⟨c9_7_0, c9_7_1, lt9_7, y9_7, -⟩ := hO.k2 7 rfl
          have HO := Lib.hid hO
          clear hO
          have fx0_0 : uw14.cell? ⟨D.ad i, 0, none⟩ = some (.iface 67 (.pointer (some ⟨nd2, 0, none⟩))) := HO.out.fcell hx 0 rfl
          have fx0_1 : uw14.cell? ⟨D.ad i, 1, none⟩ = some (.int .i32 (i : Int)) := HO.out.fcell hx 1 rfl
          have fx0_2 : uw14.cell? ⟨D.ad i, 2, none⟩ = some (.slice none 0 0) := HO.out.fcell hx 2 rfl
          have fx0_3 : uw14.cell? ⟨D.ad i, 3, none⟩ = some (.int .i32 0) := HO.out.fcell hx 3 rfl
          have fx0_4 : uw14.cell? ⟨D.ad i, 4, none⟩ = some (.int .u8 0) := HO.out.fcell hx 4 rfl
          have fx0_5 : uw14.cell? ⟨D.ad i, 5, none⟩ = some (.int .u8 0) := HO.out.fcell hx 5 rfl
          have fx0_6 : uw14.cell? ⟨D.ad i, 6, none⟩ = some (.bool false) := HO.out.fcell hx 6 rfl
          have fx0_7 : uw14.cell? ⟨D.ad i, 7, none⟩ = some (.bool false) := HO.out.fcell hx 7 rfl
          go_wp2_with (first | (with_reducible refine Own.stay (fn := Try.f3) ?_) | fail)
          try with_reducible refine Own.Stay.mk ?_
          have hO := HO.out
          clear HO fx0_0 fx0_1 fx0_2 fx0_3 fx0_4 fx0_5 fx0_6 fx0_7 c9_0_0 c9_0_1 lt9_0 y9_0 c9_1_0 lt9_1 y9_1 c9_2_0 c9_2_1 lt9_2 y9_2 c9_3_0 c9_3_1 lt9_3 y9_3 c9_6_0 c9_6_1 lt9_6 y9_6 c9_7_0 c9_7_1 lt9_7 y9_7
          have hL := hO.apart
          have hX := hO.apartX
          have HL := Lib.hid hL
          have HX := Lib.hid hX
          clear hL hX
          have hP9 := hO.pick [] (by decide)
          have T9 := flatZO D _ _ _ hP9 
          refine Calls.mono T9 ?_
          clear hP9 T9
          rintro e uw15 ⟨rfl, hQ⟩
          have hN : Own w0 uw15 [row (B12_2) 35 #[dO D (some tb9), .int .i32 (lO (some tb9))], row (B12_1) 33 #[.int .i32 (i : Int)], row (B12) 35 #[dO D none, .int .i32 (lO none)], row (tb) 35 #[dV D T, .int .i32 (lV T)], row (ub) 5 (itR U n), row (kb) 36 (clR D n 0), row (ba) 27 #[.int .u32 D.src, .int .u32 D.inn], row (bb) 27 #[.int .u32 D.src, .int .u32 D.inx]] (XF Y D i (List.range' 0 i) (List.range' (i + 1) (n - i - 1)) nd2 nd3) := hQ.back HL.out HX.out [0, 1, 2, 3, 4, 5, 6, 7] (by decide) (by decide)
          clear hQ HL HX hO
          have hO := hN
          clear hN
          try simp only []
          obtain ⟨c9_0_0, c9_0_1, lt9_0, y9_0, -⟩ := hO.k2 0 rfl
          obtain ⟨c9_1_0, lt9_1, y9_1, -⟩ := hO.k1 1 rfl
          obtain ⟨c9_2_0, c9_2_1, lt9_2, y9_2, -⟩ := hO.k2 2 rfl
          obtain ⟨c9_3_0, c9_3_1, lt9_3, y9_3, -⟩ := hO.k2 3 rfl
          obtain ⟨c9_6_0, c9_6_1, lt9_6, y9_6, -⟩ := hO.k2 6 rfl
          obtain ⟨c9_7_0, c9_7_1, lt9_7, y9_7, -⟩ := hO.k2 7 rfl
          have HO := Lib.hid hO
          clear hO
          have fx0_0 : uw15.cell? ⟨D.ad i, 0, none⟩ = some (.iface 67 (.pointer (some ⟨nd2, 0, none⟩))) := HO.out.fcell hx 0 rfl
          have fx0_1 : uw15.cell? ⟨D.ad i, 1, none⟩ = some (.int .i32 (i : Int)) := HO.out.fcell hx 1 rfl
          have fx0_2 : uw15.cell? ⟨D.ad i, 2, none⟩ = some (.slice none 0 0) := HO.out.fcell hx 2 rfl
          have fx0_3 : uw15.cell? ⟨D.ad i, 3, none⟩ = some (.int .i32 0) := HO.out.fcell hx 3 rfl
          have fx0_4 : uw15.cell? ⟨D.ad i, 4, none⟩ = some (.int .u8 0) := HO.out.fcell hx 4 rfl
          have fx0_5 : uw15.cell? ⟨D.ad i, 5, none⟩ = some (.int .u8 0) := HO.out.fcell hx 5 rfl
          have fx0_6 : uw15.cell? ⟨D.ad i, 6, none⟩ = some (.bool false) := HO.out.fcell hx 6 rfl
          have fx0_7 : uw15.cell? ⟨D.ad i, 7, none⟩ = some (.bool false) := HO.out.fcell hx 7 rfl
          go_wp2_with (first | (with_reducible refine Own.stay (fn := Try.f3) ?_) | fail)
          try with_reducible refine Own.Stay.mk ?_
          have hO := HO.out
          clear HO fx0_0 fx0_1 fx0_2 fx0_3 fx0_4 fx0_5 fx0_6 fx0_7 c9_0_0 c9_0_1 lt9_0 y9_0 c9_1_0 lt9_1 y9_1 c9_2_0 c9_2_1 lt9_2 y9_2 c9_3_0 c9_3_1 lt9_3 y9_3 c9_6_0 c9_6_1 lt9_6 y9_6 c9_7_0 c9_7_1 lt9_7 y9_7
          have hL := hO.apart
          have hX := hO.apartX
          have HL := Lib.hid hL
          have HX := Lib.hid hX
          clear hL hX
          have hP9 := hO.pick [] (by decide)
          have h9_heq : (i : Int) = 0 := HI0.out
          have T9 := isRng0b 0 (i : Int) _ _ _ hP9 h9_heq (by omega) (by omega)
          refine Calls.mono T9 ?_
          clear hP9 T9 h9_heq
          rintro e uw16 ⟨rfl, hQ⟩
          have hN : Own w0 uw16 [row (B12_2) 35 #[dO D (some tb9), .int .i32 (lO (some tb9))], row (B12_1) 33 #[.int .i32 (i : Int)], row (B12) 35 #[dO D none, .int .i32 (lO none)], row (tb) 35 #[dV D T, .int .i32 (lV T)], row (ub) 5 (itR U n), row (kb) 36 (clR D n 0), row (ba) 27 #[.int .u32 D.src, .int .u32 D.inn], row (bb) 27 #[.int .u32 D.src, .int .u32 D.inx]] (XF Y D i (List.range' 0 i) (List.range' (i + 1) (n - i - 1)) nd2 nd3) := hQ.back HL.out HX.out [0, 1, 2, 3, 4, 5, 6, 7] (by decide) (by decide)
          clear hQ HL HX hO
          have hO := hN
          clear hN
          try simp only []
          obtain ⟨c9_0_0, c9_0_1, lt9_0, y9_0, -⟩ := hO.k2 0 rfl
          obtain ⟨c9_1_0, lt9_1, y9_1, -⟩ := hO.k1 1 rfl
          obtain ⟨c9_2_0, c9_2_1, lt9_2, y9_2, -⟩ := hO.k2 2 rfl
          obtain ⟨c9_3_0, c9_3_1, lt9_3, y9_3, -⟩ := hO.k2 3 rfl
          obtain ⟨c9_6_0, c9_6_1, lt9_6, y9_6, -⟩ := hO.k2 6 rfl
          obtain ⟨c9_7_0, c9_7_1, lt9_7, y9_7, -⟩ := hO.k2 7 rfl
          have HO := Lib.hid hO
          clear hO
          have fx0_0 : uw16.cell? ⟨D.ad i, 0, none⟩ = some (.iface 67 (.pointer (some ⟨nd2, 0, none⟩))) := HO.out.fcell hx 0 rfl
          have fx0_1 : uw16.cell? ⟨D.ad i, 1, none⟩ = some (.int .i32 (i : Int)) := HO.out.fcell hx 1 rfl
          have fx0_2 : uw16.cell? ⟨D.ad i, 2, none⟩ = some (.slice none 0 0) := HO.out.fcell hx 2 rfl
          have fx0_3 : uw16.cell? ⟨D.ad i, 3, none⟩ = some (.int .i32 0) := HO.out.fcell hx 3 rfl
          have fx0_4 : uw16.cell? ⟨D.ad i, 4, none⟩ = some (.int .u8 0) := HO.out.fcell hx 4 rfl
          have fx0_5 : uw16.cell? ⟨D.ad i, 5, none⟩ = some (.int .u8 0) := HO.out.fcell hx 5 rfl
          have fx0_6 : uw16.cell? ⟨D.ad i, 6, none⟩ = some (.bool false) := HO.out.fcell hx 6 rfl
          have fx0_7 : uw16.cell? ⟨D.ad i, 7, none⟩ = some (.bool false) := HO.out.fcell hx 7 rfl
          go_wp2_with (first | (with_reducible refine Own.stay (fn := Try.f3) ?_) | fail)
          try with_reducible refine Own.Stay.mk ?_
          have hO := HO.out
          clear HO fx0_0 fx0_1 fx0_2 fx0_3 fx0_4 fx0_5 fx0_6 fx0_7 c9_0_0 c9_0_1 lt9_0 y9_0 c9_1_0 lt9_1 y9_1 c9_2_0 c9_2_1 lt9_2 y9_2 c9_3_0 c9_3_1 lt9_3 y9_3 c9_6_0 c9_6_1 lt9_6 y9_6 c9_7_0 c9_7_1 lt9_7 y9_7
          have hL := hO.apart
          have hX := hO.apartX
          have HL := Lib.hid hL
          have HX := Lib.hid hX
          clear hL hX
          have hP9 := hO.pick [] (by decide)
          have h9_hbd : tb9.flat.length ≤ 100000 := (by have h7 := HLB.out; omega)
          have T9 := flat0O D tb9 _ _ _ hP9 (hNb.mono fun _ _ h => Or.inl h) h9_hbd
          refine Calls.mono T9 ?_
          clear hP9 T9 h9_hbd
          rintro e uw17 ⟨nd18, nd19, rfl, hQ⟩
          have hN : Own w0 uw17 [row (nd18) 21 (full i32Z (rgV (tb9.flat)) nd19), row (B12_2) 35 #[dO D (some tb9), .int .i32 (lO (some tb9))], row (B12_1) 33 #[.int .i32 (i : Int)], row (B12) 35 #[dO D none, .int .i32 (lO none)], row (tb) 35 #[dV D T, .int .i32 (lV T)], row (ub) 5 (itR U n), row (kb) 36 (clR D n 0), row (ba) 27 #[.int .u32 D.src, .int .u32 D.inn], row (bb) 27 #[.int .u32 D.src, .int .u32 D.inx]] (XF Y D i (List.range' 0 i) (List.range' (i + 1) (n - i - 1)) nd2 nd3) := hQ.back HL.out HX.out [0, 1, 2, 3, 4, 5, 6, 7] (by decide) (by decide)
          clear hQ HL HX hO
          have hO := hN
          clear hN
          try simp only []
          obtain ⟨c9_1_0, c9_1_1, lt9_1, y9_1, -⟩ := hO.k2 1 rfl
          obtain ⟨c9_2_0, lt9_2, y9_2, -⟩ := hO.k1 2 rfl
          obtain ⟨c9_3_0, c9_3_1, lt9_3, y9_3, -⟩ := hO.k2 3 rfl
          obtain ⟨c9_4_0, c9_4_1, lt9_4, y9_4, -⟩ := hO.k2 4 rfl
          obtain ⟨c9_7_0, c9_7_1, lt9_7, y9_7, -⟩ := hO.k2 7 rfl
          obtain ⟨c9_8_0, c9_8_1, lt9_8, y9_8, -⟩ := hO.k2 8 rfl
          have HO := Lib.hid hO
          clear hO
          have fx0_0 : uw17.cell? ⟨D.ad i, 0, none⟩ = some (.iface 67 (.pointer (some ⟨nd2, 0, none⟩))) := HO.out.fcell hx 0 rfl
          have fx0_1 : uw17.cell? ⟨D.ad i, 1, none⟩ = some (.int .i32 (i : Int)) := HO.out.fcell hx 1 rfl
          have fx0_2 : uw17.cell? ⟨D.ad i, 2, none⟩ = some (.slice none 0 0) := HO.out.fcell hx 2 rfl
          have fx0_3 : uw17.cell? ⟨D.ad i, 3, none⟩ = some (.int .i32 0) := HO.out.fcell hx 3 rfl
          have fx0_4 : uw17.cell? ⟨D.ad i, 4, none⟩ = some (.int .u8 0) := HO.out.fcell hx 4 rfl
          have fx0_5 : uw17.cell? ⟨D.ad i, 5, none⟩ = some (.int .u8 0) := HO.out.fcell hx 5 rfl
          have fx0_6 : uw17.cell? ⟨D.ad i, 6, none⟩ = some (.bool false) := HO.out.fcell hx 6 rfl
          have fx0_7 : uw17.cell? ⟨D.ad i, 7, none⟩ = some (.bool false) := HO.out.fcell hx 7 rfl
          go_wp2_with (first | (with_reducible refine Own.stay (fn := Try.f3) ?_) | fail)
          try with_reducible refine Own.Stay.mk ?_
          have hO := HO.out
          clear HO fx0_0 fx0_1 fx0_2 fx0_3 fx0_4 fx0_5 fx0_6 fx0_7 c9_1_0 c9_1_1 lt9_1 y9_1 c9_2_0 lt9_2 y9_2 c9_3_0 c9_3_1 lt9_3 y9_3 c9_4_0 c9_4_1 lt9_4 y9_4 c9_7_0 c9_7_1 lt9_7 y9_7 c9_8_0 c9_8_1 lt9_8 y9_8
          have hL := hO.apart
          have hX := hO.apartX
          have HL := Lib.hid hL
          have HX := Lib.hid hX
          clear hL hX
          have hP9 := hO.pick [0] (by decide)
          have h9_hm : tb9.flat.length = tb9.flat.length := rfl
          have h9_hhi : (n : Int) = ((i : Int) + 1) + (tb9.flat.length : Int) := (by have h7 := HLB.out; omega)
          have h9_hlo : 0 ≤ ((i : Int) + 1) := (by omega)
          have h9_hlo9 : (n : Int) ≤ 5000 := (by omega)
          have T9 := isRng1 nd18 nd19 tb9.flat tb9.flat.length ((i : Int) + 1) (n : Int) _ _ _ hP9 h9_hm (fun q hq => by rw [HFB2.out]; rw [HLB.out] at hq; obtain ⟨v9, h8, h7⟩ := rng_at (lo := i + 1) hq; exact ⟨v9, h8, by omega⟩) h9_hhi h9_hlo h9_hlo9
          refine Calls.mono T9 ?_
          clear hP9 T9 h9_hm h9_hhi h9_hlo h9_hlo9
          rintro e uw20 ⟨rfl, hQ⟩
          have hN : Own w0 uw20 [row (nd18) 21 (full i32Z (rgV tb9.flat) nd19), row (B12_2) 35 #[dO D (some tb9), .int .i32 (lO (some tb9))], row (B12_1) 33 #[.int .i32 (i : Int)], row (B12) 35 #[dO D none, .int .i32 (lO none)], row (tb) 35 #[dV D T, .int .i32 (lV T)], row (ub) 5 (itR U n), row (kb) 36 (clR D n 0), row (ba) 27 #[.int .u32 D.src, .int .u32 D.inn], row (bb) 27 #[.int .u32 D.src, .int .u32 D.inx]] (XF Y D i (List.range' 0 i) (List.range' (i + 1) (n - i - 1)) nd2 nd3) := hQ.back HL.out HX.out [1, 2, 3, 4, 5, 6, 7, 8] (by decide) (by decide)
          clear hQ HL HX hO
          have hO := hN
          clear hN
          try simp only []
          obtain ⟨c9_1_0, c9_1_1, lt9_1, y9_1, -⟩ := hO.k2 1 rfl
          obtain ⟨c9_2_0, lt9_2, y9_2, -⟩ := hO.k1 2 rfl
          obtain ⟨c9_3_0, c9_3_1, lt9_3, y9_3, -⟩ := hO.k2 3 rfl
          obtain ⟨c9_4_0, c9_4_1, lt9_4, y9_4, -⟩ := hO.k2 4 rfl
          obtain ⟨c9_7_0, c9_7_1, lt9_7, y9_7, -⟩ := hO.k2 7 rfl
          obtain ⟨c9_8_0, c9_8_1, lt9_8, y9_8, -⟩ := hO.k2 8 rfl
          have HO := Lib.hid hO
          clear hO
          have fx0_0 : uw20.cell? ⟨D.ad i, 0, none⟩ = some (.iface 67 (.pointer (some ⟨nd2, 0, none⟩))) := HO.out.fcell hx 0 rfl
          have fx0_1 : uw20.cell? ⟨D.ad i, 1, none⟩ = some (.int .i32 (i : Int)) := HO.out.fcell hx 1 rfl
          have fx0_2 : uw20.cell? ⟨D.ad i, 2, none⟩ = some (.slice none 0 0) := HO.out.fcell hx 2 rfl
          have fx0_3 : uw20.cell? ⟨D.ad i, 3, none⟩ = some (.int .i32 0) := HO.out.fcell hx 3 rfl
          have fx0_4 : uw20.cell? ⟨D.ad i, 4, none⟩ = some (.int .u8 0) := HO.out.fcell hx 4 rfl
          have fx0_5 : uw20.cell? ⟨D.ad i, 5, none⟩ = some (.int .u8 0) := HO.out.fcell hx 5 rfl
          have fx0_6 : uw20.cell? ⟨D.ad i, 6, none⟩ = some (.bool false) := HO.out.fcell hx 6 rfl
          have fx0_7 : uw20.cell? ⟨D.ad i, 7, none⟩ = some (.bool false) := HO.out.fcell hx 7 rfl
          go_wp2_with (first | (with_reducible refine Own.stay (fn := Try.f3) ?_) | fail)
          try with_reducible refine Own.Stay.mk ?_
          have hO := HO.out
          clear HO fx0_0 fx0_1 fx0_2 fx0_3 fx0_4 fx0_5 fx0_6 fx0_7 c9_1_0 c9_1_1 lt9_1 y9_1 c9_2_0 lt9_2 y9_2 c9_3_0 c9_3_1 lt9_3 y9_3 c9_4_0 c9_4_1 lt9_4 y9_4 c9_7_0 c9_7_1 lt9_7 y9_7 c9_8_0 c9_8_1 lt9_8 y9_8
          have hL := hO.apart
          have hX := hO.apartX
          have HL := Lib.hid hL
          have HX := Lib.hid hX
          clear hL hX
          have hP9 := hO.pick [5, 6] (by decide)
          have T9 := callsUn D U n ub kb (i : Int) nd2 _ _ _ hP9 hn4 HU9.out HKD.out HK2.out (fun q hq h9 => (HLV.out q hq h9).imp (fun h => ⟨h.1, Or.inl h.2⟩) (fun h => ⟨h.1, Or.inl h.2.1, Or.inl h.2.2⟩))
          refine Calls.mono T9 ?_
          clear hP9 T9
          rintro e uw21 ⟨rfl, hQ⟩
          have hN : Own w0 uw21 [row (ub) 5 (itR U n), row (kb) 36 (clR D n 0), row (nd18) 21 (full i32Z (rgV tb9.flat) nd19), row (B12_2) 35 #[dO D (some tb9), .int .i32 (lO (some tb9))], row (B12_1) 33 #[.int .i32 (i : Int)], row (B12) 35 #[dO D none, .int .i32 (lO none)], row (tb) 35 #[dV D T, .int .i32 (lV T)], row (ba) 27 #[.int .u32 D.src, .int .u32 D.inn], row (bb) 27 #[.int .u32 D.src, .int .u32 D.inx]] (XF Y D i (List.range' 0 i) (List.range' (i + 1) (n - i - 1)) nd2 nd3) := hQ.back HL.out HX.out [0, 1, 2, 3, 4, 7, 8] (by decide) (by decide)
          clear hQ HL HX hO
          have hO := hN
          clear hN
          try simp only []
          obtain ⟨c9_3_0, c9_3_1, lt9_3, y9_3, -⟩ := hO.k2 3 rfl
          obtain ⟨c9_4_0, lt9_4, y9_4, -⟩ := hO.k1 4 rfl
          obtain ⟨c9_5_0, c9_5_1, lt9_5, y9_5, -⟩ := hO.k2 5 rfl
          obtain ⟨c9_6_0, c9_6_1, lt9_6, y9_6, -⟩ := hO.k2 6 rfl
          obtain ⟨c9_7_0, c9_7_1, lt9_7, y9_7, -⟩ := hO.k2 7 rfl
          obtain ⟨c9_8_0, c9_8_1, lt9_8, y9_8, -⟩ := hO.k2 8 rfl
          have HO := Lib.hid hO
          clear hO
          have fx0_0 : uw21.cell? ⟨D.ad i, 0, none⟩ = some (.iface 67 (.pointer (some ⟨nd2, 0, none⟩))) := HO.out.fcell hx 0 rfl
          have fx0_1 : uw21.cell? ⟨D.ad i, 1, none⟩ = some (.int .i32 (i : Int)) := HO.out.fcell hx 1 rfl
          have fx0_2 : uw21.cell? ⟨D.ad i, 2, none⟩ = some (.slice none 0 0) := HO.out.fcell hx 2 rfl
          have fx0_3 : uw21.cell? ⟨D.ad i, 3, none⟩ = some (.int .i32 0) := HO.out.fcell hx 3 rfl
          have fx0_4 : uw21.cell? ⟨D.ad i, 4, none⟩ = some (.int .u8 0) := HO.out.fcell hx 4 rfl
          have fx0_5 : uw21.cell? ⟨D.ad i, 5, none⟩ = some (.int .u8 0) := HO.out.fcell hx 5 rfl
          have fx0_6 : uw21.cell? ⟨D.ad i, 6, none⟩ = some (.bool false) := HO.out.fcell hx 6 rfl
          have fx0_7 : uw21.cell? ⟨D.ad i, 7, none⟩ = some (.bool false) := HO.out.fcell hx 7 rfl
          go_wp2_with (first | (with_reducible refine Own.stay (fn := Try.f3) ?_) | fail)
          try with_reducible refine Own.Stay.mk ?_
          have hO := HO.out
          clear HO fx0_0 fx0_1 fx0_2 fx0_3 fx0_4 fx0_5 fx0_6 fx0_7 c9_3_0 c9_3_1 lt9_3 y9_3 c9_4_0 lt9_4 y9_4 c9_5_0 c9_5_1 lt9_5 y9_5 c9_6_0 c9_6_1 lt9_6 y9_6 c9_7_0 c9_7_1 lt9_7 y9_7 c9_8_0 c9_8_1 lt9_8 y9_8
          have hO : Below w0.heap.size w0 uw21 := hO.below
          refine bodyPost_ret (v := .bool true) ?_ rfl ⟨rfl, hO⟩
          simp [results, go_sem]
      · skip
        rename_i ta
        rw [hca] at hfa
        cases hcb : afB (List.range' (i + 1) (n - i - 1)) nd3
        · skip
          rw [hcb] at hfb
          have hla : ta.flat.length = i := (congrArg List.length (show ta.flat = _ from hfa)).trans List.length_range'
          have hNa := hna ta hca
          have hfa2 : ta.flat = _ := hfa
          have HFA2 := Lib.hid hfa2
          have HLA := Lib.hid hla
          clear hfa2 hla
          have hn0 : (n : Int) = (i : Int) + 1 := by have := congrArg List.length (show [] = _ from hfb); rw [List.length_range'] at this; have h9 : ([] : List Nat).length = 0 := rfl; omega
          have HN0 := Lib.hid hn0
          clear hn0
          have HFA := Lib.hid hfa
          have HFB := Lib.hid hfb
          have HNA := Lib.hid hna
          have HNB := Lib.hid hnb
          clear hfa hfb hna hnb
          obtain ⟨ix9, hix9, hax9, hjx9⟩ := hO.ix
          have ix9_0 : ix9 tb = 0 := hjx9 0 _ _ rfl
          have ix9_1 : ix9 ub = 1 := hjx9 1 _ _ rfl
          have ix9_2 : ix9 kb = 2 := hjx9 2 _ _ rfl
          have ix9_3 : ix9 ba = 3 := hjx9 3 _ _ rfl
          have ix9_4 : ix9 bb = 4 := hjx9 4 _ _ rfl
          clear hjx9
          obtain ⟨c9_0_0, c9_0_1, lt9_0, y9_0, -⟩ := hO.k2 0 rfl
          have c9_2_i : uw1.cell? ⟨kb, i, none⟩ = some (.pointer (some ⟨D.ad i, 0, none⟩)) := hO.cell 2 rfl (i) (((clR_get 0 hlt).trans (congrArg some (clD_call h0))))
          have lt9_2 : kb < uw1.heap.size := hO.lt 2 rfl
          have y9_2 : ∀ o, uw1.frozen? ⟨kb, o, none⟩ = false := hO.free 2 rfl
          obtain ⟨c9_3_0, c9_3_1, lt9_3, y9_3, pl9_3⟩ := hO.k2 3 rfl
          obtain ⟨c9_4_0, c9_4_1, lt9_4, y9_4, pl9_4⟩ := hO.k2 4 rfl
          have HO := Lib.hid hO
          clear hO
          have fx0_0 : uw1.cell? ⟨D.ad i, 0, none⟩ = some (.iface 67 (.pointer (some ⟨nd2, 0, none⟩))) := HO.out.fcell hx 0 rfl
          have fx0_1 : uw1.cell? ⟨D.ad i, 1, none⟩ = some (.int .i32 (i : Int)) := HO.out.fcell hx 1 rfl
          have fx0_2 : uw1.cell? ⟨D.ad i, 2, none⟩ = some (.slice none 0 0) := HO.out.fcell hx 2 rfl
          have fx0_3 : uw1.cell? ⟨D.ad i, 3, none⟩ = some (.int .i32 0) := HO.out.fcell hx 3 rfl
          have fx0_4 : uw1.cell? ⟨D.ad i, 4, none⟩ = some (.int .u8 0) := HO.out.fcell hx 4 rfl
          have fx0_5 : uw1.cell? ⟨D.ad i, 5, none⟩ = some (.int .u8 0) := HO.out.fcell hx 5 rfl
          have fx0_6 : uw1.cell? ⟨D.ad i, 6, none⟩ = some (.bool false) := HO.out.fcell hx 6 rfl
          have fx0_7 : uw1.cell? ⟨D.ad i, 7, none⟩ = some (.bool false) := HO.out.fcell hx 7 rfl
          go_wp2_with (first | (with_reducible refine Own.stay (fn := Try.f3) ?_) | fail)
          try with_reducible refine Own.Stay.mk ?_
          have hO := HO.out
          clear HO hix9 hax9 ix9_0 ix9_1 ix9_2 ix9_3 ix9_4 ix9 fx0_0 fx0_1 fx0_2 fx0_3 fx0_4 fx0_5 fx0_6 fx0_7 c9_0_0 c9_0_1 lt9_0 y9_0 c9_2_i lt9_2 y9_2 c9_3_0 c9_3_1 lt9_3 y9_3 pl9_3 c9_4_0 c9_4_1 lt9_4 y9_4 pl9_4
          generalize hW : World.alloc _ _ = W23
          have hN : Own w0 W23 [row (uw1.heap.size + 1 + 1) 35 #[dO D none, .int .i32 (lO none)], row (uw1.heap.size + 1) 33 #[.int .i32 (i : Int)], row (uw1.heap.size) 35 #[dO D (some ta), .int .i32 (lO (some ta))], row (tb) 35 #[dV D T, .int .i32 (lV T)], row (ub) 5 (itR U n), row (kb) 36 (clR D n 0), row (ba) 27 #[.int .u32 D.src, .int .u32 D.inn], row (bb) 27 #[.int .u32 D.src, .int .u32 D.inx]] (XF Y D i (List.range' 0 i) (List.range' (i + 1) (n - i - 1)) nd2 nd3) := by
            rw [← hW]
            exact (((hO).alloc' _ (uw1.heap.size) (by simp)).alloc' _ (uw1.heap.size + 1) (by simp)).alloc' _ (uw1.heap.size + 1 + 1) (by simp)
          clear hW hO
          generalize uw1.heap.size + 1 + 1 = B22_2 at hN ⊢
          generalize uw1.heap.size + 1 = B22_1 at hN ⊢
          generalize uw1.heap.size = B22 at hN ⊢
          have hO := hN
          clear hN
          have hL := hO.apart
          have hX := hO.apartX
          have HL := Lib.hid hL
          have HX := Lib.hid hX
          clear hL hX
          have hP9 := hO.pick [] (by decide)
          have T9 := isSup1 nd2 (i : Int) _ _ _ hP9 
          refine Calls.mono T9 ?_
          clear hP9 T9
          rintro e uw24 ⟨rfl, hQ⟩
          have hN : Own w0 uw24 [row (B22_2) 35 #[dO D none, .int .i32 (lO none)], row (B22_1) 33 #[.int .i32 (i : Int)], row (B22) 35 #[dO D (some ta), .int .i32 (lO (some ta))], row (tb) 35 #[dV D T, .int .i32 (lV T)], row (ub) 5 (itR U n), row (kb) 36 (clR D n 0), row (ba) 27 #[.int .u32 D.src, .int .u32 D.inn], row (bb) 27 #[.int .u32 D.src, .int .u32 D.inx]] (XF Y D i (List.range' 0 i) (List.range' (i + 1) (n - i - 1)) nd2 nd3) := hQ.back HL.out HX.out [0, 1, 2, 3, 4, 5, 6, 7] (by decide) (by decide)
          clear hQ HL HX hO
          have hO := hN
          clear hN
          try simp only []
          obtain ⟨c9_0_0, c9_0_1, lt9_0, y9_0, -⟩ := hO.k2 0 rfl
          obtain ⟨c9_1_0, lt9_1, y9_1, -⟩ := hO.k1 1 rfl
          obtain ⟨c9_2_0, c9_2_1, lt9_2, y9_2, -⟩ := hO.k2 2 rfl
          obtain ⟨c9_3_0, c9_3_1, lt9_3, y9_3, -⟩ := hO.k2 3 rfl
          obtain ⟨c9_6_0, c9_6_1, lt9_6, y9_6, -⟩ := hO.k2 6 rfl
          obtain ⟨c9_7_0, c9_7_1, lt9_7, y9_7, -⟩ := hO.k2 7 rfl
          have HO := Lib.hid hO
          clear hO
          have fx0_0 : uw24.cell? ⟨D.ad i, 0, none⟩ = some (.iface 67 (.pointer (some ⟨nd2, 0, none⟩))) := HO.out.fcell hx 0 rfl
          have fx0_1 : uw24.cell? ⟨D.ad i, 1, none⟩ = some (.int .i32 (i : Int)) := HO.out.fcell hx 1 rfl
          have fx0_2 : uw24.cell? ⟨D.ad i, 2, none⟩ = some (.slice none 0 0) := HO.out.fcell hx 2 rfl
          have fx0_3 : uw24.cell? ⟨D.ad i, 3, none⟩ = some (.int .i32 0) := HO.out.fcell hx 3 rfl
          have fx0_4 : uw24.cell? ⟨D.ad i, 4, none⟩ = some (.int .u8 0) := HO.out.fcell hx 4 rfl
          have fx0_5 : uw24.cell? ⟨D.ad i, 5, none⟩ = some (.int .u8 0) := HO.out.fcell hx 5 rfl
          have fx0_6 : uw24.cell? ⟨D.ad i, 6, none⟩ = some (.bool false) := HO.out.fcell hx 6 rfl
          have fx0_7 : uw24.cell? ⟨D.ad i, 7, none⟩ = some (.bool false) := HO.out.fcell hx 7 rfl
          go_wp2_with (first | (with_reducible refine Own.stay (fn := Try.f3) ?_) | fail)
          try with_reducible refine Own.Stay.mk ?_
          have hO := HO.out
          clear HO fx0_0 fx0_1 fx0_2 fx0_3 fx0_4 fx0_5 fx0_6 fx0_7 c9_0_0 c9_0_1 lt9_0 y9_0 c9_1_0 lt9_1 y9_1 c9_2_0 c9_2_1 lt9_2 y9_2 c9_3_0 c9_3_1 lt9_3 y9_3 c9_6_0 c9_6_1 lt9_6 y9_6 c9_7_0 c9_7_1 lt9_7 y9_7
          have hL := hO.apart
          have hX := hO.apartX
          have HL := Lib.hid hL
          have HX := Lib.hid hX
          clear hL hX
          have hP9 := hO.pick [] (by decide)
          have h9_hbd : ta.flat.length ≤ 100000 := (by have h7 := HLA.out; omega)
          have T9 := flat0O D ta _ _ _ hP9 (hNa.mono fun _ _ h => Or.inl h) h9_hbd
          refine Calls.mono T9 ?_
          clear hP9 T9 h9_hbd
          rintro e uw25 ⟨nd26, nd27, rfl, hQ⟩
          have hN : Own w0 uw25 [row (nd26) 21 (full i32Z (rgV (ta.flat)) nd27), row (B22_2) 35 #[dO D none, .int .i32 (lO none)], row (B22_1) 33 #[.int .i32 (i : Int)], row (B22) 35 #[dO D (some ta), .int .i32 (lO (some ta))], row (tb) 35 #[dV D T, .int .i32 (lV T)], row (ub) 5 (itR U n), row (kb) 36 (clR D n 0), row (ba) 27 #[.int .u32 D.src, .int .u32 D.inn], row (bb) 27 #[.int .u32 D.src, .int .u32 D.inx]] (XF Y D i (List.range' 0 i) (List.range' (i + 1) (n - i - 1)) nd2 nd3) := hQ.back HL.out HX.out [0, 1, 2, 3, 4, 5, 6, 7] (by decide) (by decide)
          clear hQ HL HX hO
          have hO := hN
          clear hN
          try simp only []
          obtain ⟨c9_1_0, c9_1_1, lt9_1, y9_1, -⟩ := hO.k2 1 rfl
          obtain ⟨c9_2_0, lt9_2, y9_2, -⟩ := hO.k1 2 rfl
          obtain ⟨c9_3_0, c9_3_1, lt9_3, y9_3, -⟩ := hO.k2 3 rfl
          obtain ⟨c9_4_0, c9_4_1, lt9_4, y9_4, -⟩ := hO.k2 4 rfl
          obtain ⟨c9_7_0, c9_7_1, lt9_7, y9_7, -⟩ := hO.k2 7 rfl
          obtain ⟨c9_8_0, c9_8_1, lt9_8, y9_8, -⟩ := hO.k2 8 rfl
          have HO := Lib.hid hO
          clear hO
          have fx0_0 : uw25.cell? ⟨D.ad i, 0, none⟩ = some (.iface 67 (.pointer (some ⟨nd2, 0, none⟩))) := HO.out.fcell hx 0 rfl
          have fx0_1 : uw25.cell? ⟨D.ad i, 1, none⟩ = some (.int .i32 (i : Int)) := HO.out.fcell hx 1 rfl
          have fx0_2 : uw25.cell? ⟨D.ad i, 2, none⟩ = some (.slice none 0 0) := HO.out.fcell hx 2 rfl
          have fx0_3 : uw25.cell? ⟨D.ad i, 3, none⟩ = some (.int .i32 0) := HO.out.fcell hx 3 rfl
          have fx0_4 : uw25.cell? ⟨D.ad i, 4, none⟩ = some (.int .u8 0) := HO.out.fcell hx 4 rfl
          have fx0_5 : uw25.cell? ⟨D.ad i, 5, none⟩ = some (.int .u8 0) := HO.out.fcell hx 5 rfl
          have fx0_6 : uw25.cell? ⟨D.ad i, 6, none⟩ = some (.bool false) := HO.out.fcell hx 6 rfl
          have fx0_7 : uw25.cell? ⟨D.ad i, 7, none⟩ = some (.bool false) := HO.out.fcell hx 7 rfl
          go_wp2_with (first | (with_reducible refine Own.stay (fn := Try.f3) ?_) | fail)
          try with_reducible refine Own.Stay.mk ?_
          have hO := HO.out
          clear HO fx0_0 fx0_1 fx0_2 fx0_3 fx0_4 fx0_5 fx0_6 fx0_7 c9_1_0 c9_1_1 lt9_1 y9_1 c9_2_0 lt9_2 y9_2 c9_3_0 c9_3_1 lt9_3 y9_3 c9_4_0 c9_4_1 lt9_4 y9_4 c9_7_0 c9_7_1 lt9_7 y9_7 c9_8_0 c9_8_1 lt9_8 y9_8
          have hL := hO.apart
          have hX := hO.apartX
          have HL := Lib.hid hL
          have HX := Lib.hid hX
          clear hL hX
          have hP9 := hO.pick [0] (by decide)
          have h9_hm : ta.flat.length = ta.flat.length := rfl
          have h9_hhi : (i : Int) = 0 + (ta.flat.length : Int) := (by have h7 := HLA.out; omega)
          have h9_hlo9 : (i : Int) ≤ 5000 := (by omega)
          have T9 := isRng1 nd26 nd27 ta.flat ta.flat.length 0 (i : Int) _ _ _ hP9 h9_hm (fun q hq => by rw [HFA2.out]; rw [HLA.out] at hq; obtain ⟨v9, h8, h7⟩ := rng_at (lo := 0) hq; exact ⟨v9, h8, by omega⟩) h9_hhi (by omega) h9_hlo9
          refine Calls.mono T9 ?_
          clear hP9 T9 h9_hm h9_hhi h9_hlo9
          rintro e uw28 ⟨rfl, hQ⟩
          have hN : Own w0 uw28 [row (nd26) 21 (full i32Z (rgV ta.flat) nd27), row (B22_2) 35 #[dO D none, .int .i32 (lO none)], row (B22_1) 33 #[.int .i32 (i : Int)], row (B22) 35 #[dO D (some ta), .int .i32 (lO (some ta))], row (tb) 35 #[dV D T, .int .i32 (lV T)], row (ub) 5 (itR U n), row (kb) 36 (clR D n 0), row (ba) 27 #[.int .u32 D.src, .int .u32 D.inn], row (bb) 27 #[.int .u32 D.src, .int .u32 D.inx]] (XF Y D i (List.range' 0 i) (List.range' (i + 1) (n - i - 1)) nd2 nd3) := hQ.back HL.out HX.out [1, 2, 3, 4, 5, 6, 7, 8] (by decide) (by decide)
          clear hQ HL HX hO
          have hO := hN
          clear hN
          try simp only []
          obtain ⟨c9_1_0, c9_1_1, lt9_1, y9_1, -⟩ := hO.k2 1 rfl
          obtain ⟨c9_2_0, lt9_2, y9_2, -⟩ := hO.k1 2 rfl
          obtain ⟨c9_3_0, c9_3_1, lt9_3, y9_3, -⟩ := hO.k2 3 rfl
          obtain ⟨c9_4_0, c9_4_1, lt9_4, y9_4, -⟩ := hO.k2 4 rfl
          obtain ⟨c9_7_0, c9_7_1, lt9_7, y9_7, -⟩ := hO.k2 7 rfl
          obtain ⟨c9_8_0, c9_8_1, lt9_8, y9_8, -⟩ := hO.k2 8 rfl
          have HO := Lib.hid hO
          clear hO
          have fx0_0 : uw28.cell? ⟨D.ad i, 0, none⟩ = some (.iface 67 (.pointer (some ⟨nd2, 0, none⟩))) := HO.out.fcell hx 0 rfl
          have fx0_1 : uw28.cell? ⟨D.ad i, 1, none⟩ = some (.int .i32 (i : Int)) := HO.out.fcell hx 1 rfl
          have fx0_2 : uw28.cell? ⟨D.ad i, 2, none⟩ = some (.slice none 0 0) := HO.out.fcell hx 2 rfl
          have fx0_3 : uw28.cell? ⟨D.ad i, 3, none⟩ = some (.int .i32 0) := HO.out.fcell hx 3 rfl
          have fx0_4 : uw28.cell? ⟨D.ad i, 4, none⟩ = some (.int .u8 0) := HO.out.fcell hx 4 rfl
          have fx0_5 : uw28.cell? ⟨D.ad i, 5, none⟩ = some (.int .u8 0) := HO.out.fcell hx 5 rfl
          have fx0_6 : uw28.cell? ⟨D.ad i, 6, none⟩ = some (.bool false) := HO.out.fcell hx 6 rfl
          have fx0_7 : uw28.cell? ⟨D.ad i, 7, none⟩ = some (.bool false) := HO.out.fcell hx 7 rfl
          go_wp2_with (first | (with_reducible refine Own.stay (fn := Try.f3) ?_) | fail)
          try with_reducible refine Own.Stay.mk ?_
          have hO := HO.out
          clear HO fx0_0 fx0_1 fx0_2 fx0_3 fx0_4 fx0_5 fx0_6 fx0_7 c9_1_0 c9_1_1 lt9_1 y9_1 c9_2_0 lt9_2 y9_2 c9_3_0 c9_3_1 lt9_3 y9_3 c9_4_0 c9_4_1 lt9_4 y9_4 c9_7_0 c9_7_1 lt9_7 y9_7 c9_8_0 c9_8_1 lt9_8 y9_8
          have hL := hO.apart
          have hX := hO.apartX
          have HL := Lib.hid hL
          have HX := Lib.hid hX
          clear hL hX
          have hP9 := hO.pick [] (by decide)
          have T9 := flatZO D _ _ _ hP9 
          refine Calls.mono T9 ?_
          clear hP9 T9
          rintro e uw29 ⟨rfl, hQ⟩
          have hN : Own w0 uw29 [row (nd26) 21 (full i32Z (rgV ta.flat) nd27), row (B22_2) 35 #[dO D none, .int .i32 (lO none)], row (B22_1) 33 #[.int .i32 (i : Int)], row (B22) 35 #[dO D (some ta), .int .i32 (lO (some ta))], row (tb) 35 #[dV D T, .int .i32 (lV T)], row (ub) 5 (itR U n), row (kb) 36 (clR D n 0), row (ba) 27 #[.int .u32 D.src, .int .u32 D.inn], row (bb) 27 #[.int .u32 D.src, .int .u32 D.inx]] (XF Y D i (List.range' 0 i) (List.range' (i + 1) (n - i - 1)) nd2 nd3) := hQ.back HL.out HX.out [0, 1, 2, 3, 4, 5, 6, 7, 8] (by decide) (by decide)
          clear hQ HL HX hO
          have hO := hN
          clear hN
          try simp only []
          obtain ⟨c9_1_0, c9_1_1, lt9_1, y9_1, -⟩ := hO.k2 1 rfl
          obtain ⟨c9_2_0, lt9_2, y9_2, -⟩ := hO.k1 2 rfl
          obtain ⟨c9_3_0, c9_3_1, lt9_3, y9_3, -⟩ := hO.k2 3 rfl
          obtain ⟨c9_4_0, c9_4_1, lt9_4, y9_4, -⟩ := hO.k2 4 rfl
          obtain ⟨c9_7_0, c9_7_1, lt9_7, y9_7, -⟩ := hO.k2 7 rfl
          obtain ⟨c9_8_0, c9_8_1, lt9_8, y9_8, -⟩ := hO.k2 8 rfl
          have HO := Lib.hid hO
          clear hO
          have fx0_0 : uw29.cell? ⟨D.ad i, 0, none⟩ = some (.iface 67 (.pointer (some ⟨nd2, 0, none⟩))) := HO.out.fcell hx 0 rfl
          have fx0_1 : uw29.cell? ⟨D.ad i, 1, none⟩ = some (.int .i32 (i : Int)) := HO.out.fcell hx 1 rfl
          have fx0_2 : uw29.cell? ⟨D.ad i, 2, none⟩ = some (.slice none 0 0) := HO.out.fcell hx 2 rfl
          have fx0_3 : uw29.cell? ⟨D.ad i, 3, none⟩ = some (.int .i32 0) := HO.out.fcell hx 3 rfl
          have fx0_4 : uw29.cell? ⟨D.ad i, 4, none⟩ = some (.int .u8 0) := HO.out.fcell hx 4 rfl
          have fx0_5 : uw29.cell? ⟨D.ad i, 5, none⟩ = some (.int .u8 0) := HO.out.fcell hx 5 rfl
          have fx0_6 : uw29.cell? ⟨D.ad i, 6, none⟩ = some (.bool false) := HO.out.fcell hx 6 rfl
          have fx0_7 : uw29.cell? ⟨D.ad i, 7, none⟩ = some (.bool false) := HO.out.fcell hx 7 rfl
          go_wp2_with (first | (with_reducible refine Own.stay (fn := Try.f3) ?_) | fail)
          try with_reducible refine Own.Stay.mk ?_
          have hO := HO.out
          clear HO fx0_0 fx0_1 fx0_2 fx0_3 fx0_4 fx0_5 fx0_6 fx0_7 c9_1_0 c9_1_1 lt9_1 y9_1 c9_2_0 lt9_2 y9_2 c9_3_0 c9_3_1 lt9_3 y9_3 c9_4_0 c9_4_1 lt9_4 y9_4 c9_7_0 c9_7_1 lt9_7 y9_7 c9_8_0 c9_8_1 lt9_8 y9_8
          have hL := hO.apart
          have hX := hO.apartX
          have HL := Lib.hid hL
          have HX := Lib.hid hX
          clear hL hX
          have hP9 := hO.pick [] (by decide)
          have h9_heq : (n : Int) = ((i : Int) + 1) := HN0.out
          have h9_hlo : 0 ≤ ((i : Int) + 1) := (by omega)
          have h9_hlo9 : ((i : Int) + 1) ≤ 5000 := (by omega)
          have T9 := isRng0b ((i : Int) + 1) (n : Int) _ _ _ hP9 h9_heq h9_hlo h9_hlo9
          refine Calls.mono T9 ?_
          clear hP9 T9 h9_heq h9_hlo h9_hlo9
          rintro e uw30 ⟨rfl, hQ⟩
          have hN : Own w0 uw30 [row (nd26) 21 (full i32Z (rgV ta.flat) nd27), row (B22_2) 35 #[dO D none, .int .i32 (lO none)], row (B22_1) 33 #[.int .i32 (i : Int)], row (B22) 35 #[dO D (some ta), .int .i32 (lO (some ta))], row (tb) 35 #[dV D T, .int .i32 (lV T)], row (ub) 5 (itR U n), row (kb) 36 (clR D n 0), row (ba) 27 #[.int .u32 D.src, .int .u32 D.inn], row (bb) 27 #[.int .u32 D.src, .int .u32 D.inx]] (XF Y D i (List.range' 0 i) (List.range' (i + 1) (n - i - 1)) nd2 nd3) := hQ.back HL.out HX.out [0, 1, 2, 3, 4, 5, 6, 7, 8] (by decide) (by decide)
          clear hQ HL HX hO
          have hO := hN
          clear hN
          try simp only []
          obtain ⟨c9_1_0, c9_1_1, lt9_1, y9_1, -⟩ := hO.k2 1 rfl
          obtain ⟨c9_2_0, lt9_2, y9_2, -⟩ := hO.k1 2 rfl
          obtain ⟨c9_3_0, c9_3_1, lt9_3, y9_3, -⟩ := hO.k2 3 rfl
          obtain ⟨c9_4_0, c9_4_1, lt9_4, y9_4, -⟩ := hO.k2 4 rfl
          obtain ⟨c9_7_0, c9_7_1, lt9_7, y9_7, -⟩ := hO.k2 7 rfl
          obtain ⟨c9_8_0, c9_8_1, lt9_8, y9_8, -⟩ := hO.k2 8 rfl
          have HO := Lib.hid hO
          clear hO
          have fx0_0 : uw30.cell? ⟨D.ad i, 0, none⟩ = some (.iface 67 (.pointer (some ⟨nd2, 0, none⟩))) := HO.out.fcell hx 0 rfl
          have fx0_1 : uw30.cell? ⟨D.ad i, 1, none⟩ = some (.int .i32 (i : Int)) := HO.out.fcell hx 1 rfl
          have fx0_2 : uw30.cell? ⟨D.ad i, 2, none⟩ = some (.slice none 0 0) := HO.out.fcell hx 2 rfl
          have fx0_3 : uw30.cell? ⟨D.ad i, 3, none⟩ = some (.int .i32 0) := HO.out.fcell hx 3 rfl
          have fx0_4 : uw30.cell? ⟨D.ad i, 4, none⟩ = some (.int .u8 0) := HO.out.fcell hx 4 rfl
          have fx0_5 : uw30.cell? ⟨D.ad i, 5, none⟩ = some (.int .u8 0) := HO.out.fcell hx 5 rfl
          have fx0_6 : uw30.cell? ⟨D.ad i, 6, none⟩ = some (.bool false) := HO.out.fcell hx 6 rfl
          have fx0_7 : uw30.cell? ⟨D.ad i, 7, none⟩ = some (.bool false) := HO.out.fcell hx 7 rfl
          go_wp2_with (first | (with_reducible refine Own.stay (fn := Try.f3) ?_) | fail)
          try with_reducible refine Own.Stay.mk ?_
          have hO := HO.out
          clear HO fx0_0 fx0_1 fx0_2 fx0_3 fx0_4 fx0_5 fx0_6 fx0_7 c9_1_0 c9_1_1 lt9_1 y9_1 c9_2_0 lt9_2 y9_2 c9_3_0 c9_3_1 lt9_3 y9_3 c9_4_0 c9_4_1 lt9_4 y9_4 c9_7_0 c9_7_1 lt9_7 y9_7 c9_8_0 c9_8_1 lt9_8 y9_8
          have hL := hO.apart
          have hX := hO.apartX
          have HL := Lib.hid hL
          have HX := Lib.hid hX
          clear hL hX
          have hP9 := hO.pick [5, 6] (by decide)
          have T9 := callsUn D U n ub kb (i : Int) nd2 _ _ _ hP9 hn4 HU9.out HKD.out HK2.out (fun q hq h9 => (HLV.out q hq h9).imp (fun h => ⟨h.1, Or.inl h.2⟩) (fun h => ⟨h.1, Or.inl h.2.1, Or.inl h.2.2⟩))
          refine Calls.mono T9 ?_
          clear hP9 T9
          rintro e uw31 ⟨rfl, hQ⟩
          have hN : Own w0 uw31 [row (ub) 5 (itR U n), row (kb) 36 (clR D n 0), row (nd26) 21 (full i32Z (rgV ta.flat) nd27), row (B22_2) 35 #[dO D none, .int .i32 (lO none)], row (B22_1) 33 #[.int .i32 (i : Int)], row (B22) 35 #[dO D (some ta), .int .i32 (lO (some ta))], row (tb) 35 #[dV D T, .int .i32 (lV T)], row (ba) 27 #[.int .u32 D.src, .int .u32 D.inn], row (bb) 27 #[.int .u32 D.src, .int .u32 D.inx]] (XF Y D i (List.range' 0 i) (List.range' (i + 1) (n - i - 1)) nd2 nd3) := hQ.back HL.out HX.out [0, 1, 2, 3, 4, 7, 8] (by decide) (by decide)
          clear hQ HL HX hO
          have hO := hN
          clear hN
          try simp only []
          obtain ⟨c9_3_0, c9_3_1, lt9_3, y9_3, -⟩ := hO.k2 3 rfl
          obtain ⟨c9_4_0, lt9_4, y9_4, -⟩ := hO.k1 4 rfl
          obtain ⟨c9_5_0, c9_5_1, lt9_5, y9_5, -⟩ := hO.k2 5 rfl
          obtain ⟨c9_6_0, c9_6_1, lt9_6, y9_6, -⟩ := hO.k2 6 rfl
          obtain ⟨c9_7_0, c9_7_1, lt9_7, y9_7, -⟩ := hO.k2 7 rfl
          obtain ⟨c9_8_0, c9_8_1, lt9_8, y9_8, -⟩ := hO.k2 8 rfl
          have HO := Lib.hid hO
          clear hO
          have fx0_0 : uw31.cell? ⟨D.ad i, 0, none⟩ = some (.iface 67 (.pointer (some ⟨nd2, 0, none⟩))) := HO.out.fcell hx 0 rfl
          have fx0_1 : uw31.cell? ⟨D.ad i, 1, none⟩ = some (.int .i32 (i : Int)) := HO.out.fcell hx 1 rfl
          have fx0_2 : uw31.cell? ⟨D.ad i, 2, none⟩ = some (.slice none 0 0) := HO.out.fcell hx 2 rfl
          have fx0_3 : uw31.cell? ⟨D.ad i, 3, none⟩ = some (.int .i32 0) := HO.out.fcell hx 3 rfl
          have fx0_4 : uw31.cell? ⟨D.ad i, 4, none⟩ = some (.int .u8 0) := HO.out.fcell hx 4 rfl
          have fx0_5 : uw31.cell? ⟨D.ad i, 5, none⟩ = some (.int .u8 0) := HO.out.fcell hx 5 rfl
          have fx0_6 : uw31.cell? ⟨D.ad i, 6, none⟩ = some (.bool false) := HO.out.fcell hx 6 rfl
          have fx0_7 : uw31.cell? ⟨D.ad i, 7, none⟩ = some (.bool false) := HO.out.fcell hx 7 rfl
          go_wp2_with (first | (with_reducible refine Own.stay (fn := Try.f3) ?_) | fail)
          try with_reducible refine Own.Stay.mk ?_
          have hO := HO.out
          clear HO fx0_0 fx0_1 fx0_2 fx0_3 fx0_4 fx0_5 fx0_6 fx0_7 c9_3_0 c9_3_1 lt9_3 y9_3 c9_4_0 lt9_4 y9_4 c9_5_0 c9_5_1 lt9_5 y9_5 c9_6_0 c9_6_1 lt9_6 y9_6 c9_7_0 c9_7_1 lt9_7 y9_7 c9_8_0 c9_8_1 lt9_8 y9_8
          have hO : Below w0.heap.size w0 uw31 := hO.below
          refine bodyPost_ret (v := .bool true) ?_ rfl ⟨rfl, hO⟩
          simp [results, go_sem]
        · skip
          rename_i tb9
          rw [hcb] at hfb
          have hla : ta.flat.length = i := (congrArg List.length (show ta.flat = _ from hfa)).trans List.length_range'
          have hNa := hna ta hca
          have hfa2 : ta.flat = _ := hfa
          have HFA2 := Lib.hid hfa2
          have HLA := Lib.hid hla
          clear hfa2 hla
          have hlb : tb9.flat.length = n - i - 1 := (congrArg List.length (show tb9.flat = _ from hfb)).trans List.length_range'
          have hNb := hnb tb9 hcb
          have hfb2 : tb9.flat = _ := hfb
          have HFB2 := Lib.hid hfb2
          have HLB := Lib.hid hlb
          clear hfb2 hlb
          have HFA := Lib.hid hfa
          have HFB := Lib.hid hfb
          have HNA := Lib.hid hna
          have HNB := Lib.hid hnb
          clear hfa hfb hna hnb
          obtain ⟨ix9, hix9, hax9, hjx9⟩ := hO.ix
          have ix9_0 : ix9 tb = 0 := hjx9 0 _ _ rfl
          have ix9_1 : ix9 ub = 1 := hjx9 1 _ _ rfl
          have ix9_2 : ix9 kb = 2 := hjx9 2 _ _ rfl
          have ix9_3 : ix9 ba = 3 := hjx9 3 _ _ rfl
          have ix9_4 : ix9 bb = 4 := hjx9 4 _ _ rfl
          clear hjx9
          obtain ⟨c9_0_0, c9_0_1, lt9_0, y9_0, -⟩ := hO.k2 0 rfl
          have c9_2_i : uw1.cell? ⟨kb, i, none⟩ = some (.pointer (some ⟨D.ad i, 0, none⟩)) := hO.cell 2 rfl (i) (((clR_get 0 hlt).trans (congrArg some (clD_call h0))))
          have lt9_2 : kb < uw1.heap.size := hO.lt 2 rfl
          have y9_2 : ∀ o, uw1.frozen? ⟨kb, o, none⟩ = false := hO.free 2 rfl
          obtain ⟨c9_3_0, c9_3_1, lt9_3, y9_3, pl9_3⟩ := hO.k2 3 rfl
          obtain ⟨c9_4_0, c9_4_1, lt9_4, y9_4, pl9_4⟩ := hO.k2 4 rfl
          have HO := Lib.hid hO
          clear hO
          have fx0_0 : uw1.cell? ⟨D.ad i, 0, none⟩ = some (.iface 67 (.pointer (some ⟨nd2, 0, none⟩))) := HO.out.fcell hx 0 rfl
          have fx0_1 : uw1.cell? ⟨D.ad i, 1, none⟩ = some (.int .i32 (i : Int)) := HO.out.fcell hx 1 rfl
          have fx0_2 : uw1.cell? ⟨D.ad i, 2, none⟩ = some (.slice none 0 0) := HO.out.fcell hx 2 rfl
          have fx0_3 : uw1.cell? ⟨D.ad i, 3, none⟩ = some (.int .i32 0) := HO.out.fcell hx 3 rfl
          have fx0_4 : uw1.cell? ⟨D.ad i, 4, none⟩ = some (.int .u8 0) := HO.out.fcell hx 4 rfl
          have fx0_5 : uw1.cell? ⟨D.ad i, 5, none⟩ = some (.int .u8 0) := HO.out.fcell hx 5 rfl
          have fx0_6 : uw1.cell? ⟨D.ad i, 6, none⟩ = some (.bool false) := HO.out.fcell hx 6 rfl
          have fx0_7 : uw1.cell? ⟨D.ad i, 7, none⟩ = some (.bool false) := HO.out.fcell hx 7 rfl
          go_wp2_with (first | (with_reducible refine Own.stay (fn := Try.f3) ?_) | fail)
          try with_reducible refine Own.Stay.mk ?_
          have hO := HO.out
          clear HO hix9 hax9 ix9_0 ix9_1 ix9_2 ix9_3 ix9_4 ix9 fx0_0 fx0_1 fx0_2 fx0_3 fx0_4 fx0_5 fx0_6 fx0_7 c9_0_0 c9_0_1 lt9_0 y9_0 c9_2_i lt9_2 y9_2 c9_3_0 c9_3_1 lt9_3 y9_3 pl9_3 c9_4_0 c9_4_1 lt9_4 y9_4 pl9_4
          generalize hW : World.alloc _ _ = W33
          have hN : Own w0 W33 [row (uw1.heap.size + 1 + 1) 35 #[dO D (some tb9), .int .i32 (lO (some tb9))], row (uw1.heap.size + 1) 33 #[.int .i32 (i : Int)], row (uw1.heap.size) 35 #[dO D (some ta), .int .i32 (lO (some ta))], row (tb) 35 #[dV D T, .int .i32 (lV T)], row (ub) 5 (itR U n), row (kb) 36 (clR D n 0), row (ba) 27 #[.int .u32 D.src, .int .u32 D.inn], row (bb) 27 #[.int .u32 D.src, .int .u32 D.inx]] (XF Y D i (List.range' 0 i) (List.range' (i + 1) (n - i - 1)) nd2 nd3) := by
            rw [← hW]
            exact (((hO).alloc' _ (uw1.heap.size) (by simp)).alloc' _ (uw1.heap.size + 1) (by simp)).alloc' _ (uw1.heap.size + 1 + 1) (by simp)
          clear hW hO
          generalize uw1.heap.size + 1 + 1 = B32_2 at hN ⊢
          generalize uw1.heap.size + 1 = B32_1 at hN ⊢
          generalize uw1.heap.size = B32 at hN ⊢
          have hO := hN
          clear hN
          have hL := hO.apart
          have hX := hO.apartX
          have HL := Lib.hid hL
          have HX := Lib.hid hX
          clear hL hX
          have hP9 := hO.pick [] (by decide)
          have T9 := isSup1 nd2 (i : Int) _ _ _ hP9 
          refine Calls.mono T9 ?_
          clear hP9 T9
          rintro e uw34 ⟨rfl, hQ⟩
          have hN : Own w0 uw34 [row (B32_2) 35 #[dO D (some tb9), .int .i32 (lO (some tb9))], row (B32_1) 33 #[.int .i32 (i : Int)], row (B32) 35 #[dO D (some ta), .int .i32 (lO (some ta))], row (tb) 35 #[dV D T, .int .i32 (lV T)], row (ub) 5 (itR U n), row (kb) 36 (clR D n 0), row (ba) 27 #[.int .u32 D.src, .int .u32 D.inn], row (bb) 27 #[.int .u32 D.src, .int .u32 D.inx]] (XF Y D i (List.range' 0 i) (List.range' (i + 1) (n - i - 1)) nd2 nd3) := hQ.back HL.out HX.out [0, 1, 2, 3, 4, 5, 6, 7] (by decide) (by decide)
          clear hQ HL HX hO
          have hO := hN
          clear hN
          try simp only []
          obtain ⟨c9_0_0, c9_0_1, lt9_0, y9_0, -⟩ := hO.k2 0 rfl
          obtain ⟨c9_1_0, lt9_1, y9_1, -⟩ := hO.k1 1 rfl
          obtain ⟨c9_2_0, c9_2_1, lt9_2, y9_2, -⟩ := hO.k2 2 rfl
          obtain ⟨c9_3_0, c9_3_1, lt9_3, y9_3, -⟩ := hO.k2 3 rfl
          obtain ⟨c9_6_0, c9_6_1, lt9_6, y9_6, -⟩ := hO.k2 6 rfl
          obtain ⟨c9_7_0, c9_7_1, lt9_7, y9_7, -⟩ := hO.k2 7 rfl
          have HO := Lib.hid hO
          clear hO
          have fx0_0 : uw34.cell? ⟨D.ad i, 0, none⟩ = some (.iface 67 (.pointer (some ⟨nd2, 0, none⟩))) := HO.out.fcell hx 0 rfl
          have fx0_1 : uw34.cell? ⟨D.ad i, 1, none⟩ = some (.int .i32 (i : Int)) := HO.out.fcell hx 1 rfl
          have fx0_2 : uw34.cell? ⟨D.ad i, 2, none⟩ = some (.slice none 0 0) := HO.out.fcell hx 2 rfl
          have fx0_3 : uw34.cell? ⟨D.ad i, 3, none⟩ = some (.int .i32 0) := HO.out.fcell hx 3 rfl
          have fx0_4 : uw34.cell? ⟨D.ad i, 4, none⟩ = some (.int .u8 0) := HO.out.fcell hx 4 rfl
          have fx0_5 : uw34.cell? ⟨D.ad i, 5, none⟩ = some (.int .u8 0) := HO.out.fcell hx 5 rfl
          have fx0_6 : uw34.cell? ⟨D.ad i, 6, none⟩ = some (.bool false) := HO.out.fcell hx 6 rfl
          have fx0_7 : uw34.cell? ⟨D.ad i, 7, none⟩ = some (.bool false) := HO.out.fcell hx 7 rfl
          go_wp2_with (first | (with_reducible refine Own.stay (fn := Try.f3) ?_) | fail)
          try with_reducible refine Own.Stay.mk ?_
          have hO := HO.out
          clear HO fx0_0 fx0_1 fx0_2 fx0_3 fx0_4 fx0_5 fx0_6 fx0_7 c9_0_0 c9_0_1 lt9_0 y9_0 c9_1_0 lt9_1 y9_1 c9_2_0 c9_2_1 lt9_2 y9_2 c9_3_0 c9_3_1 lt9_3 y9_3 c9_6_0 c9_6_1 lt9_6 y9_6 c9_7_0 c9_7_1 lt9_7 y9_7
          have hL := hO.apart
          have hX := hO.apartX
          have HL := Lib.hid hL
          have HX := Lib.hid hX
          clear hL hX
          have hP9 := hO.pick [] (by decide)
          have h9_hbd : ta.flat.length ≤ 100000 := (by have h7 := HLA.out; omega)
          have T9 := flat0O D ta _ _ _ hP9 (hNa.mono fun _ _ h => Or.inl h) h9_hbd
          refine Calls.mono T9 ?_
          clear hP9 T9 h9_hbd
          rintro e uw35 ⟨nd36, nd37, rfl, hQ⟩
          have hN : Own w0 uw35 [row (nd36) 21 (full i32Z (rgV (ta.flat)) nd37), row (B32_2) 35 #[dO D (some tb9), .int .i32 (lO (some tb9))], row (B32_1) 33 #[.int .i32 (i : Int)], row (B32) 35 #[dO D (some ta), .int .i32 (lO (some ta))], row (tb) 35 #[dV D T, .int .i32 (lV T)], row (ub) 5 (itR U n), row (kb) 36 (clR D n 0), row (ba) 27 #[.int .u32 D.src, .int .u32 D.inn], row (bb) 27 #[.int .u32 D.src, .int .u32 D.inx]] (XF Y D i (List.range' 0 i) (List.range' (i + 1) (n - i - 1)) nd2 nd3) := hQ.back HL.out HX.out [0, 1, 2, 3, 4, 5, 6, 7] (by decide) (by decide)
          clear hQ HL HX hO
          have hO := hN
          clear hN
          try simp only []
          obtain ⟨c9_1_0, c9_1_1, lt9_1, y9_1, -⟩ := hO.k2 1 rfl
          obtain ⟨c9_2_0, lt9_2, y9_2, -⟩ := hO.k1 2 rfl
          obtain ⟨c9_3_0, c9_3_1, lt9_3, y9_3, -⟩ := hO.k2 3 rfl
          obtain ⟨c9_4_0, c9_4_1, lt9_4, y9_4, -⟩ := hO.k2 4 rfl
          obtain ⟨c9_7_0, c9_7_1, lt9_7, y9_7, -⟩ := hO.k2 7 rfl
          obtain ⟨c9_8_0, c9_8_1, lt9_8, y9_8, -⟩ := hO.k2 8 rfl
          have HO := Lib.hid hO
          clear hO
          have fx0_0 : uw35.cell? ⟨D.ad i, 0, none⟩ = some (.iface 67 (.pointer (some ⟨nd2, 0, none⟩))) := HO.out.fcell hx 0 rfl
          have fx0_1 : uw35.cell? ⟨D.ad i, 1, none⟩ = some (.int .i32 (i : Int)) := HO.out.fcell hx 1 rfl
          have fx0_2 : uw35.cell? ⟨D.ad i, 2, none⟩ = some (.slice none 0 0) := HO.out.fcell hx 2 rfl
          have fx0_3 : uw35.cell? ⟨D.ad i, 3, none⟩ = some (.int .i32 0) := HO.out.fcell hx 3 rfl
          have fx0_4 : uw35.cell? ⟨D.ad i, 4, none⟩ = some (.int .u8 0) := HO.out.fcell hx 4 rfl
          have fx0_5 : uw35.cell? ⟨D.ad i, 5, none⟩ = some (.int .u8 0) := HO.out.fcell hx 5 rfl
          have fx0_6 : uw35.cell? ⟨D.ad i, 6, none⟩ = some (.bool false) := HO.out.fcell hx 6 rfl
          have fx0_7 : uw35.cell? ⟨D.ad i, 7, none⟩ = some (.bool false) := HO.out.fcell hx 7 rfl
          go_wp2_with (first | (with_reducible refine Own.stay (fn := Try.f3) ?_) | fail)
          try with_reducible refine Own.Stay.mk ?_
          have hO := HO.out
          clear HO fx0_0 fx0_1 fx0_2 fx0_3 fx0_4 fx0_5 fx0_6 fx0_7 c9_1_0 c9_1_1 lt9_1 y9_1 c9_2_0 lt9_2 y9_2 c9_3_0 c9_3_1 lt9_3 y9_3 c9_4_0 c9_4_1 lt9_4 y9_4 c9_7_0 c9_7_1 lt9_7 y9_7 c9_8_0 c9_8_1 lt9_8 y9_8
          have hL := hO.apart
          have hX := hO.apartX
          have HL := Lib.hid hL
          have HX := Lib.hid hX
          clear hL hX
          have hP9 := hO.pick [0] (by decide)
          have h9_hm : ta.flat.length = ta.flat.length := rfl
          have h9_hhi : (i : Int) = 0 + (ta.flat.length : Int) := (by have h7 := HLA.out; omega)
          have h9_hlo9 : (i : Int) ≤ 5000 := (by omega)
          have T9 := isRng1 nd36 nd37 ta.flat ta.flat.length 0 (i : Int) _ _ _ hP9 h9_hm (fun q hq => by rw [HFA2.out]; rw [HLA.out] at hq; obtain ⟨v9, h8, h7⟩ := rng_at (lo := 0) hq; exact ⟨v9, h8, by omega⟩) h9_hhi (by omega) h9_hlo9
          refine Calls.mono T9 ?_
          clear hP9 T9 h9_hm h9_hhi h9_hlo9
          rintro e uw38 ⟨rfl, hQ⟩
          have hN : Own w0 uw38 [row (nd36) 21 (full i32Z (rgV ta.flat) nd37), row (B32_2) 35 #[dO D (some tb9), .int .i32 (lO (some tb9))], row (B32_1) 33 #[.int .i32 (i : Int)], row (B32) 35 #[dO D (some ta), .int .i32 (lO (some ta))], row (tb) 35 #[dV D T, .int .i32 (lV T)], row (ub) 5 (itR U n), row (kb) 36 (clR D n 0), row (ba) 27 #[.int .u32 D.src, .int .u32 D.inn], row (bb) 27 #[.int .u32 D.src, .int .u32 D.inx]] (XF Y D i (List.range' 0 i) (List.range' (i + 1) (n - i - 1)) nd2 nd3) := hQ.back HL.out HX.out [1, 2, 3, 4, 5, 6, 7, 8] (by decide) (by decide)
          clear hQ HL HX hO
          have hO := hN
          clear hN
          try simp only []
          obtain ⟨c9_1_0, c9_1_1, lt9_1, y9_1, -⟩ := hO.k2 1 rfl
          obtain ⟨c9_2_0, lt9_2, y9_2, -⟩ := hO.k1 2 rfl
          obtain ⟨c9_3_0, c9_3_1, lt9_3, y9_3, -⟩ := hO.k2 3 rfl
          obtain ⟨c9_4_0, c9_4_1, lt9_4, y9_4, -⟩ := hO.k2 4 rfl
          obtain ⟨c9_7_0, c9_7_1, lt9_7, y9_7, -⟩ := hO.k2 7 rfl
          obtain ⟨c9_8_0, c9_8_1, lt9_8, y9_8, -⟩ := hO.k2 8 rfl
          have HO := Lib.hid hO
          clear hO
          have fx0_0 : uw38.cell? ⟨D.ad i, 0, none⟩ = some (.iface 67 (.pointer (some ⟨nd2, 0, none⟩))) := HO.out.fcell hx 0 rfl
          have fx0_1 : uw38.cell? ⟨D.ad i, 1, none⟩ = some (.int .i32 (i : Int)) := HO.out.fcell hx 1 rfl
          have fx0_2 : uw38.cell? ⟨D.ad i, 2, none⟩ = some (.slice none 0 0) := HO.out.fcell hx 2 rfl
          have fx0_3 : uw38.cell? ⟨D.ad i, 3, none⟩ = some (.int .i32 0) := HO.out.fcell hx 3 rfl
          have fx0_4 : uw38.cell? ⟨D.ad i, 4, none⟩ = some (.int .u8 0) := HO.out.fcell hx 4 rfl
          have fx0_5 : uw38.cell? ⟨D.ad i, 5, none⟩ = some (.int .u8 0) := HO.out.fcell hx 5 rfl
          have fx0_6 : uw38.cell? ⟨D.ad i, 6, none⟩ = some (.bool false) := HO.out.fcell hx 6 rfl
          have fx0_7 : uw38.cell? ⟨D.ad i, 7, none⟩ = some (.bool false) := HO.out.fcell hx 7 rfl
          go_wp2_with (first | (with_reducible refine Own.stay (fn := Try.f3) ?_) | fail)
          try with_reducible refine Own.Stay.mk ?_
          have hO := HO.out
          clear HO fx0_0 fx0_1 fx0_2 fx0_3 fx0_4 fx0_5 fx0_6 fx0_7 c9_1_0 c9_1_1 lt9_1 y9_1 c9_2_0 lt9_2 y9_2 c9_3_0 c9_3_1 lt9_3 y9_3 c9_4_0 c9_4_1 lt9_4 y9_4 c9_7_0 c9_7_1 lt9_7 y9_7 c9_8_0 c9_8_1 lt9_8 y9_8
          have hL := hO.apart
          have hX := hO.apartX
          have HL := Lib.hid hL
          have HX := Lib.hid hX
          clear hL hX
          have hP9 := hO.pick [] (by decide)
          have h9_hbd : tb9.flat.length ≤ 100000 := (by have h7 := HLB.out; omega)
          have T9 := flat0O D tb9 _ _ _ hP9 (hNb.mono fun _ _ h => Or.inl h) h9_hbd
          refine Calls.mono T9 ?_
          clear hP9 T9 h9_hbd
          rintro e uw39 ⟨nd40, nd41, rfl, hQ⟩
          have hN : Own w0 uw39 [row (nd40) 21 (full i32Z (rgV (tb9.flat)) nd41), row (nd36) 21 (full i32Z (rgV ta.flat) nd37), row (B32_2) 35 #[dO D (some tb9), .int .i32 (lO (some tb9))], row (B32_1) 33 #[.int .i32 (i : Int)], row (B32) 35 #[dO D (some ta), .int .i32 (lO (some ta))], row (tb) 35 #[dV D T, .int .i32 (lV T)], row (ub) 5 (itR U n), row (kb) 36 (clR D n 0), row (ba) 27 #[.int .u32 D.src, .int .u32 D.inn], row (bb) 27 #[.int .u32 D.src, .int .u32 D.inx]] (XF Y D i (List.range' 0 i) (List.range' (i + 1) (n - i - 1)) nd2 nd3) := hQ.back HL.out HX.out [0, 1, 2, 3, 4, 5, 6, 7, 8] (by decide) (by decide)
          clear hQ HL HX hO
          have hO := hN
          clear hN
          try simp only []
          obtain ⟨c9_2_0, c9_2_1, lt9_2, y9_2, -⟩ := hO.k2 2 rfl
          obtain ⟨c9_3_0, lt9_3, y9_3, -⟩ := hO.k1 3 rfl
          obtain ⟨c9_4_0, c9_4_1, lt9_4, y9_4, -⟩ := hO.k2 4 rfl
          obtain ⟨c9_5_0, c9_5_1, lt9_5, y9_5, -⟩ := hO.k2 5 rfl
          obtain ⟨c9_8_0, c9_8_1, lt9_8, y9_8, -⟩ := hO.k2 8 rfl
          obtain ⟨c9_9_0, c9_9_1, lt9_9, y9_9, -⟩ := hO.k2 9 rfl
          have HO := Lib.hid hO
          clear hO
          have fx0_0 : uw39.cell? ⟨D.ad i, 0, none⟩ = some (.iface 67 (.pointer (some ⟨nd2, 0, none⟩))) := HO.out.fcell hx 0 rfl
          have fx0_1 : uw39.cell? ⟨D.ad i, 1, none⟩ = some (.int .i32 (i : Int)) := HO.out.fcell hx 1 rfl
          have fx0_2 : uw39.cell? ⟨D.ad i, 2, none⟩ = some (.slice none 0 0) := HO.out.fcell hx 2 rfl
          have fx0_3 : uw39.cell? ⟨D.ad i, 3, none⟩ = some (.int .i32 0) := HO.out.fcell hx 3 rfl
          have fx0_4 : uw39.cell? ⟨D.ad i, 4, none⟩ = some (.int .u8 0) := HO.out.fcell hx 4 rfl
          have fx0_5 : uw39.cell? ⟨D.ad i, 5, none⟩ = some (.int .u8 0) := HO.out.fcell hx 5 rfl
          have fx0_6 : uw39.cell? ⟨D.ad i, 6, none⟩ = some (.bool false) := HO.out.fcell hx 6 rfl
          have fx0_7 : uw39.cell? ⟨D.ad i, 7, none⟩ = some (.bool false) := HO.out.fcell hx 7 rfl
          go_wp2_with (first | (with_reducible refine Own.stay (fn := Try.f3) ?_) | fail)
          try with_reducible refine Own.Stay.mk ?_
          have hO := HO.out
          clear HO fx0_0 fx0_1 fx0_2 fx0_3 fx0_4 fx0_5 fx0_6 fx0_7 c9_2_0 c9_2_1 lt9_2 y9_2 c9_3_0 lt9_3 y9_3 c9_4_0 c9_4_1 lt9_4 y9_4 c9_5_0 c9_5_1 lt9_5 y9_5 c9_8_0 c9_8_1 lt9_8 y9_8 c9_9_0 c9_9_1 lt9_9 y9_9
          have hL := hO.apart
          have hX := hO.apartX
          have HL := Lib.hid hL
          have HX := Lib.hid hX
          clear hL hX
          have hP9 := hO.pick [0] (by decide)
          have h9_hm : tb9.flat.length = tb9.flat.length := rfl
          have h9_hhi : (n : Int) = ((i : Int) + 1) + (tb9.flat.length : Int) := (by have h7 := HLB.out; omega)
          have h9_hlo : 0 ≤ ((i : Int) + 1) := (by omega)
          have h9_hlo9 : (n : Int) ≤ 5000 := (by omega)
          have T9 := isRng1 nd40 nd41 tb9.flat tb9.flat.length ((i : Int) + 1) (n : Int) _ _ _ hP9 h9_hm (fun q hq => by rw [HFB2.out]; rw [HLB.out] at hq; obtain ⟨v9, h8, h7⟩ := rng_at (lo := i + 1) hq; exact ⟨v9, h8, by omega⟩) h9_hhi h9_hlo h9_hlo9
          refine Calls.mono T9 ?_
          clear hP9 T9 h9_hm h9_hhi h9_hlo h9_hlo9
          rintro e uw42 ⟨rfl, hQ⟩
          have hN : Own w0 uw42 [row (nd40) 21 (full i32Z (rgV tb9.flat) nd41), row (nd36) 21 (full i32Z (rgV ta.flat) nd37), row (B32_2) 35 #[dO D (some tb9), .int .i32 (lO (some tb9))], row (B32_1) 33 #[.int .i32 (i : Int)], row (B32) 35 #[dO D (some ta), .int .i32 (lO (some ta))], row (tb) 35 #[dV D T, .int .i32 (lV T)], row (ub) 5 (itR U n), row (kb) 36 (clR D n 0), row (ba) 27 #[.int .u32 D.src, .int .u32 D.inn], row (bb) 27 #[.int .u32 D.src, .int .u32 D.inx]] (XF Y D i (List.range' 0 i) (List.range' (i + 1) (n - i - 1)) nd2 nd3) := hQ.back HL.out HX.out [1, 2, 3, 4, 5, 6, 7, 8, 9] (by decide) (by decide)
          clear hQ HL HX hO
          have hO := hN
          clear hN
          try simp only []
          obtain ⟨c9_2_0, c9_2_1, lt9_2, y9_2, -⟩ := hO.k2 2 rfl
          obtain ⟨c9_3_0, lt9_3, y9_3, -⟩ := hO.k1 3 rfl
          obtain ⟨c9_4_0, c9_4_1, lt9_4, y9_4, -⟩ := hO.k2 4 rfl
          obtain ⟨c9_5_0, c9_5_1, lt9_5, y9_5, -⟩ := hO.k2 5 rfl
          obtain ⟨c9_8_0, c9_8_1, lt9_8, y9_8, -⟩ := hO.k2 8 rfl
          obtain ⟨c9_9_0, c9_9_1, lt9_9, y9_9, -⟩ := hO.k2 9 rfl
          have HO := Lib.hid hO
          clear hO
          have fx0_0 : uw42.cell? ⟨D.ad i, 0, none⟩ = some (.iface 67 (.pointer (some ⟨nd2, 0, none⟩))) := HO.out.fcell hx 0 rfl
          have fx0_1 : uw42.cell? ⟨D.ad i, 1, none⟩ = some (.int .i32 (i : Int)) := HO.out.fcell hx 1 rfl
          have fx0_2 : uw42.cell? ⟨D.ad i, 2, none⟩ = some (.slice none 0 0) := HO.out.fcell hx 2 rfl
          have fx0_3 : uw42.cell? ⟨D.ad i, 3, none⟩ = some (.int .i32 0) := HO.out.fcell hx 3 rfl
          have fx0_4 : uw42.cell? ⟨D.ad i, 4, none⟩ = some (.int .u8 0) := HO.out.fcell hx 4 rfl
          have fx0_5 : uw42.cell? ⟨D.ad i, 5, none⟩ = some (.int .u8 0) := HO.out.fcell hx 5 rfl
          have fx0_6 : uw42.cell? ⟨D.ad i, 6, none⟩ = some (.bool false) := HO.out.fcell hx 6 rfl
          have fx0_7 : uw42.cell? ⟨D.ad i, 7, none⟩ = some (.bool false) := HO.out.fcell hx 7 rfl
          go_wp2_with (first | (with_reducible refine Own.stay (fn := Try.f3) ?_) | fail)
          try with_reducible refine Own.Stay.mk ?_
          have hO := HO.out
          clear HO fx0_0 fx0_1 fx0_2 fx0_3 fx0_4 fx0_5 fx0_6 fx0_7 c9_2_0 c9_2_1 lt9_2 y9_2 c9_3_0 lt9_3 y9_3 c9_4_0 c9_4_1 lt9_4 y9_4 c9_5_0 c9_5_1 lt9_5 y9_5 c9_8_0 c9_8_1 lt9_8 y9_8 c9_9_0 c9_9_1 lt9_9 y9_9
          have hL := hO.apart
          have hX := hO.apartX
          have HL := Lib.hid hL
          have HX := Lib.hid hX
          clear hL hX
          have hP9 := hO.pick [6, 7] (by decide)
          have T9 := callsUn D U n ub kb (i : Int) nd2 _ _ _ hP9 hn4 HU9.out HKD.out HK2.out (fun q hq h9 => (HLV.out q hq h9).imp (fun h => ⟨h.1, Or.inl h.2⟩) (fun h => ⟨h.1, Or.inl h.2.1, Or.inl h.2.2⟩))
          refine Calls.mono T9 ?_
          clear hP9 T9
          rintro e uw43 ⟨rfl, hQ⟩
          have hN : Own w0 uw43 [row (ub) 5 (itR U n), row (kb) 36 (clR D n 0), row (nd40) 21 (full i32Z (rgV tb9.flat) nd41), row (nd36) 21 (full i32Z (rgV ta.flat) nd37), row (B32_2) 35 #[dO D (some tb9), .int .i32 (lO (some tb9))], row (B32_1) 33 #[.int .i32 (i : Int)], row (B32) 35 #[dO D (some ta), .int .i32 (lO (some ta))], row (tb) 35 #[dV D T, .int .i32 (lV T)], row (ba) 27 #[.int .u32 D.src, .int .u32 D.inn], row (bb) 27 #[.int .u32 D.src, .int .u32 D.inx]] (XF Y D i (List.range' 0 i) (List.range' (i + 1) (n - i - 1)) nd2 nd3) := hQ.back HL.out HX.out [0, 1, 2, 3, 4, 5, 8, 9] (by decide) (by decide)
          clear hQ HL HX hO
          have hO := hN
          clear hN
          try simp only []
          obtain ⟨c9_4_0, c9_4_1, lt9_4, y9_4, -⟩ := hO.k2 4 rfl
          obtain ⟨c9_5_0, lt9_5, y9_5, -⟩ := hO.k1 5 rfl
          obtain ⟨c9_6_0, c9_6_1, lt9_6, y9_6, -⟩ := hO.k2 6 rfl
          obtain ⟨c9_7_0, c9_7_1, lt9_7, y9_7, -⟩ := hO.k2 7 rfl
          obtain ⟨c9_8_0, c9_8_1, lt9_8, y9_8, -⟩ := hO.k2 8 rfl
          obtain ⟨c9_9_0, c9_9_1, lt9_9, y9_9, -⟩ := hO.k2 9 rfl
          have HO := Lib.hid hO
          clear hO
          have fx0_0 : uw43.cell? ⟨D.ad i, 0, none⟩ = some (.iface 67 (.pointer (some ⟨nd2, 0, none⟩))) := HO.out.fcell hx 0 rfl
          have fx0_1 : uw43.cell? ⟨D.ad i, 1, none⟩ = some (.int .i32 (i : Int)) := HO.out.fcell hx 1 rfl
          have fx0_2 : uw43.cell? ⟨D.ad i, 2, none⟩ = some (.slice none 0 0) := HO.out.fcell hx 2 rfl
          have fx0_3 : uw43.cell? ⟨D.ad i, 3, none⟩ = some (.int .i32 0) := HO.out.fcell hx 3 rfl
          have fx0_4 : uw43.cell? ⟨D.ad i, 4, none⟩ = some (.int .u8 0) := HO.out.fcell hx 4 rfl
          have fx0_5 : uw43.cell? ⟨D.ad i, 5, none⟩ = some (.int .u8 0) := HO.out.fcell hx 5 rfl
          have fx0_6 : uw43.cell? ⟨D.ad i, 6, none⟩ = some (.bool false) := HO.out.fcell hx 6 rfl
          have fx0_7 : uw43.cell? ⟨D.ad i, 7, none⟩ = some (.bool false) := HO.out.fcell hx 7 rfl
          go_wp2_with (first | (with_reducible refine Own.stay (fn := Try.f3) ?_) | fail)
          try with_reducible refine Own.Stay.mk ?_
          have hO := HO.out
          clear HO fx0_0 fx0_1 fx0_2 fx0_3 fx0_4 fx0_5 fx0_6 fx0_7 c9_4_0 c9_4_1 lt9_4 y9_4 c9_5_0 lt9_5 y9_5 c9_6_0 c9_6_1 lt9_6 y9_6 c9_7_0 c9_7_1 lt9_7 y9_7 c9_8_0 c9_8_1 lt9_8 y9_8 c9_9_0 c9_9_1 lt9_9 y9_9
          have hO : Below w0.heap.size w0 uw43 := hO.below
          refine bodyPost_ret (v := .bool true) ?_ rfl ⟨rfl, hO⟩
          simp [results, go_sem]
    · skip
      have hrm : ¬ (U i : Int).tmod 3 = 1 := by rw [hki]; omega
      have hrm2 : ((U i : Int).tmod 3 == 1) = false := by rw [beq_eq_false_iff_ne]; exact hrm
      clear hki
      obtain ⟨ix9, hix9, hax9, hjx9⟩ := hO.ix
      have ix9_0 : ix9 tb = 0 := hjx9 0 _ _ rfl
      have ix9_1 : ix9 ub = 1 := hjx9 1 _ _ rfl
      have ix9_2 : ix9 kb = 2 := hjx9 2 _ _ rfl
      have ix9_3 : ix9 ba = 3 := hjx9 3 _ _ rfl
      have ix9_4 : ix9 bb = 4 := hjx9 4 _ _ rfl
      clear hjx9
      obtain ⟨c9_0_0, c9_0_1, lt9_0, y9_0, -⟩ := hO.k2 0 rfl
      have c9_1_i : wr.cell? ⟨ub, i, none⟩ = some (.int .u8 (U i : Int)) := hO.cell 1 rfl (i) ((itR_get hlt))
      have lt9_1 : ub < wr.heap.size := hO.lt 1 rfl
      have y9_1 : ∀ o, wr.frozen? ⟨ub, o, none⟩ = false := hO.free 1 rfl
      obtain ⟨c9_3_0, c9_3_1, lt9_3, y9_3, pl9_3⟩ := hO.k2 3 rfl
      obtain ⟨c9_4_0, c9_4_1, lt9_4, y9_4, pl9_4⟩ := hO.k2 4 rfl
      have HO := Lib.hid hO
      clear hO
      go_wp2_with (first | (with_reducible refine Own.stay (fn := Try.f3) ?_) | fail)
      try with_reducible refine Own.Stay.mk ?_
      have hO := HO.out
      clear HO hix9 hax9 ix9_0 ix9_1 ix9_2 ix9_3 ix9_4 ix9 c9_0_0 c9_0_1 lt9_0 y9_0 c9_1_i lt9_1 y9_1 c9_3_0 c9_3_1 lt9_3 y9_3 pl9_3 c9_4_0 c9_4_1 lt9_4 y9_4 pl9_4
      have hN : Own w0 wr [row (tb) 35 #[dV D T, .int .i32 (lV T)], row (ub) 5 (itR U n), row (kb) 36 (clR D n 0), row (ba) 27 #[.int .u32 D.src, .int .u32 D.inn], row (bb) 27 #[.int .u32 D.src, .int .u32 D.inx]] Y := hO.sub [0, 1, 2, 3, 4] (by decide)
      clear hO
      have hO := hN
      clear hN
      go_roundg gq
      case measure => omega
      case rel => exact ⟨i + 1, by omega, rfl, by first | rfl | simp, fun q hq => (Nat.lt_succ_iff_lt_or_eq.1 hq).elim (fun h => hno q h) (fun h => by rw [h]; exact h1), hO⟩
  obtain rfl : gk = 0 := by omega
  obtain rfl : n = i := by omega
  have hlt9 : ¬ (n : Int) < (n : Int) := by omega
  obtain ⟨c9_0_0, c9_0_1, lt9_0, y9_0, -⟩ := hO.k2 0 rfl
  obtain ⟨c9_3_0, c9_3_1, lt9_3, y9_3, -⟩ := hO.k2 3 rfl
  obtain ⟨c9_4_0, c9_4_1, lt9_4, y9_4, -⟩ := hO.k2 4 rfl
  have HO := Lib.hid hO
  clear hO
  go_wp2_with (first | (with_reducible refine Own.stay (fn := Try.f3) ?_) | fail)
  try with_reducible refine Own.Stay.mk ?_
  have hO := HO.out
  clear HO c9_0_0 c9_0_1 lt9_0 y9_0 c9_3_0 c9_3_1 lt9_3 y9_3 c9_4_0 c9_4_1 lt9_4 y9_4
  have hL := hO.apart
  have hX := hO.apartX
  have HL := Lib.hid hL
  have HX := Lib.hid hX
  clear hL hX
  have hP9 := hO.pick [] (by decide)
  have h9_h1 : ∀ i, i ∈ T.flat → D.kd i ≠ 1 := (fun q hq => hno q (by rw [hT] at hq; have := List.mem_range'.1 hq; omega))
  have T9 := doorN D T _ _ _ hP9 (hN.mono fun _ _ h => Or.inl h) (fun q hq => (hV q hq).mono fun _ _ h => Or.inl h) h9_h1 hne
  refine Calls.mono T9 ?_
  clear hP9 T9 h9_h1
  rintro e uw44 ⟨rfl, hQ⟩
  have hN : Own w0 uw44 [row (tb) 35 #[dV D T, .int .i32 (lV T)], row (ub) 5 (itR U n), row (kb) 36 (clR D n 0), row (ba) 27 #[.int .u32 D.src, .int .u32 D.inn], row (bb) 27 #[.int .u32 D.src, .int .u32 D.inx]] Y := hQ.back HL.out HX.out [0, 1, 2, 3, 4] (by decide) (by decide)
  clear hQ HL HX hO
  have hO := hN
  clear hN
  try simp only []
  obtain ⟨c9_0_0, c9_0_1, lt9_0, y9_0, -⟩ := hO.k2 0 rfl
  obtain ⟨c9_3_0, c9_3_1, lt9_3, y9_3, -⟩ := hO.k2 3 rfl
  obtain ⟨c9_4_0, c9_4_1, lt9_4, y9_4, -⟩ := hO.k2 4 rfl
  have HO := Lib.hid hO
  clear hO
  go_wp2_with (first | (with_reducible refine Own.stay (fn := Try.f3) ?_) | fail)
  try with_reducible refine Own.Stay.mk ?_
  have hO := HO.out
  clear HO c9_0_0 c9_0_1 lt9_0 y9_0 c9_3_0 c9_3_1 lt9_3 y9_3 c9_4_0 c9_4_1 lt9_4 y9_4
  generalize hW : World.alloc _ _ = W46
  have hN : Own w0 W46 [row (uw44.heap.size + 1 + 1) 35 #[.nilIface, .int .i32 0], row (uw44.heap.size + 1) 33 #[.int .i32 0], row (uw44.heap.size) 35 #[.nilIface, .int .i32 0], row (tb) 35 #[dV D T, .int .i32 (lV T)], row (ub) 5 (itR U n), row (kb) 36 (clR D n 0), row (ba) 27 #[.int .u32 D.src, .int .u32 D.inn], row (bb) 27 #[.int .u32 D.src, .int .u32 D.inx]] Y := by
    rw [← hW]
    exact (((hO).alloc' _ (uw44.heap.size) (by simp)).alloc' _ (uw44.heap.size + 1) (by simp)).alloc' _ (uw44.heap.size + 1 + 1) (by simp)
  clear hW hO
  generalize uw44.heap.size + 1 + 1 = B45_2 at hN ⊢
  generalize uw44.heap.size + 1 = B45_1 at hN ⊢
  generalize uw44.heap.size = B45 at hN ⊢
  have hO := hN
  clear hN
  have hL := hO.apart
  have hX := hO.apartX
  have HL := Lib.hid hL
  have HX := Lib.hid hX
  clear hL hX
  have hP9 := hO.pick [4, 5] (by decide)
  have T9 := callsUn D U n ub kb (- 1) 0 _ _ _ hP9 hn4 hu9 hkd hk2 (fun q hq h9 => Or.inr ⟨by omega, Or.inl (hYL _ _ (Or.inr ⟨q, hq, h9, Or.inl ⟨rfl, rfl⟩⟩)), Or.inl (hYL _ _ (Or.inr ⟨q, hq, h9, Or.inr ⟨rfl, rfl⟩⟩))⟩)
  refine Calls.mono T9 ?_
  clear hP9 T9
  rintro e uw47 ⟨rfl, hQ⟩
  have hN : Own w0 uw47 [row (ub) 5 (itR U n), row (kb) 36 (clR D n 0), row (B45_2) 35 #[.nilIface, .int .i32 0], row (B45_1) 33 #[.int .i32 0], row (B45) 35 #[.nilIface, .int .i32 0], row (tb) 35 #[dV D T, .int .i32 (lV T)], row (ba) 27 #[.int .u32 D.src, .int .u32 D.inn], row (bb) 27 #[.int .u32 D.src, .int .u32 D.inx]] Y := hQ.back HL.out HX.out [0, 1, 2, 3, 6, 7] (by decide) (by decide)
  clear hQ HL HX hO
  have hO := hN
  clear hN
  try simp only []
  obtain ⟨c9_2_0, c9_2_1, lt9_2, y9_2, -⟩ := hO.k2 2 rfl
  obtain ⟨c9_3_0, lt9_3, y9_3, -⟩ := hO.k1 3 rfl
  obtain ⟨c9_4_0, c9_4_1, lt9_4, y9_4, -⟩ := hO.k2 4 rfl
  obtain ⟨c9_5_0, c9_5_1, lt9_5, y9_5, -⟩ := hO.k2 5 rfl
  obtain ⟨c9_6_0, c9_6_1, lt9_6, y9_6, -⟩ := hO.k2 6 rfl
  obtain ⟨c9_7_0, c9_7_1, lt9_7, y9_7, -⟩ := hO.k2 7 rfl
  have HO := Lib.hid hO
  clear hO
  go_wp2_with (first | (with_reducible refine Own.stay (fn := Try.f3) ?_) | fail)
  try with_reducible refine Own.Stay.mk ?_
  have hO := HO.out
  clear HO c9_2_0 c9_2_1 lt9_2 y9_2 c9_3_0 lt9_3 y9_3 c9_4_0 c9_4_1 lt9_4 y9_4 c9_5_0 c9_5_1 lt9_5 y9_5 c9_6_0 c9_6_1 lt9_6 y9_6 c9_7_0 c9_7_1 lt9_7 y9_7
  have hO : Below w0.heap.size w0 uw47 := hO.below
  refine bodyPost_ret (v := .bool true) ?_ rfl ⟨rfl, hO⟩
  simp [results, go_sem]
end Go.Proofs.Ytdbnnpoffpipjaa.Use
