/- One step of the shape. No condition. -/
import Derived.Test.YtdbnnpoffpipjaaBsh
import Derived.Test.YtdbnnpoffpipjaaLv
import Derived.Test.YtdbnnpoffpipjaaFin
import Derived.Test.YtdbnnpoffpipjaaFd
import Derived.Test.YtdbnnpoffpipjaaFn1
import Derived.Test.YtdbnnpoffpipjaaFf1
import Derived.Test.YtdbnnpoffpipjaaJn
import Derived.Test.YtdbnnpoffpipjaaTre
import Derived.Test.YtdbnnpoffpipjaaLoop
import Derived.Test.YtdbnnpoffpipjaaAppL
import Derived.Test.YtdbnnpoffpipjaaApp
import Derived.Test.YtdbnnpoffpipjaaOwnK
import Derived.Test.YtdbnnpoffpipjaaOwn
import Derived.Test.YtdbnnpoffpipjaaDeepCells
import Derived.Test.YtdbnnpoffpipjaaRows
namespace Go.Proofs.Ytdbnnpoffpipjaa.Use
open Go.ChangeShapes Go.WideShapes Go.ChangeAt Go.RowKit Go.Sort Own
set_option linter.unusedVariables false

set_option maxRecDepth 100000 in
set_option maxHeartbeats 4000000 in
theorem bsSm (D : Dat) (n lb sb m : Nat) (V : Nat → Nat) (lo hi : Nat) (w0 w : World) (X : Nat → Obj → Prop) (hO : Own w0 w [] X) (hlv : X lb (.cells (lvR D n 0) 35 (0, 0))) (hsp : X sb (.cells (spR V m) 73 (0, 0))) (hlo : lo < hi) (hhi : hi ≤ n) (hn4 : n ≤ 4096) (hm : 0 < m) (hm6 : m ≤ 65536) (hV9 : ∀ i : Nat, i < m → V i < 65536) (ih : ∀ (lo2 hi2 : Nat) (w0 w : World) (X : Nat → Obj → Prop), Own w0 w [] X → X lb (.cells (lvR D n 0) 35 (0, 0)) → X sb (.cells (spR V m) 73 (0, 0)) → lo2 < hi2 → hi2 ≤ n → hi2 - lo2 < hi - lo → Calls Try.prog 16 #[.slice (some ⟨lb, 0, none⟩) n n, .int .i64 (lo2 : Int), .int .i64 (hi2 : Int), .slice (some ⟨sb, 0, none⟩) m m] w (bsPost D lo2 hi2 w0 X)) :
    Calls Try.prog 16 #[.slice (some ⟨lb, 0, none⟩) n n, .int .i64 (lo : Int), .int .i64 (hi : Int), .slice (some ⟨sb, 0, none⟩) m m] w (bsPost D lo hi w0 X) := by
  have hl8 : (0 : Int) ≤ (lo : Int) := by omega
  have hh9 : (hi : Int) ≤ 4096 := by omega
  have hlh : (lo : Int) < (hi : Int) := by omega
  by_cases h1 : hi - lo = 1
  · skip
    have hd1 : (hi : Int) - (lo : Int) = 1 := by omega
    have hln : (lo : Int) < (n : Int) := by omega
    go_enter Try.func16, Try.ntmps16
    have fl0 : w.cell? ⟨lb, lo * 2, none⟩ = some (dV D (.leaf lo)) := hO.fcell hlv _ (lvR_get0 0 (show lo < n by omega))
    have fl1 : w.cell? ⟨lb, lo * 2 + 1, none⟩ = some (.int .i32 (lV (.leaf lo))) := hO.fcell hlv _ (lvR_get1 0 (show lo < n by omega))
    go_wp2_with (first | (with_reducible refine Own.stay (fn := Try.f16) ?_) | fail)
    try with_reducible refine Own.Stay.mk ?_
    have HO := Lib.hid hO
    clear hO
    have hO := HO.out
    clear HO fl0 fl1
    generalize hW : World.alloc _ _ = W2
    have hN : Own w0 W2 [row (w.heap.size) 35 #[dV D (Tr.leaf lo), .int .i32 (lV (Tr.leaf lo))]] X := by
      rw [← hW]
      exact (hO).alloc' _ (w.heap.size) (by simp)
    clear hW hO
    generalize w.heap.size = B1 at hN ⊢
    have hO := hN
    clear hN
    have z9_0 : W2.cell? ⟨B1, 0, none⟩ = some (dV D (Tr.leaf lo)) := hO.cell 0 rfl 0 rfl
    have z9_1 : W2.cell? ⟨B1, 1, none⟩ = some (.int .i32 (lV (Tr.leaf lo))) := hO.cell 0 rfl 1 rfl
    refine bodyPost_ret (v := .agg #[dV D (Tr.leaf lo), .int .i32 (lV (Tr.leaf lo))]) ?_ rfl ⟨.leaf lo, rfl, by rw [h1]; rfl, (hO.sub [] (by decide)).reframe (by
      rintro b o (h | ⟨l, r, h, _⟩)
      · exact h
      · cases h)⟩
    simp [results, Try.results16, go_sem, z9_0, z9_1]
  · skip
    have hd1 : ¬ (hi : Int) - (lo : Int) = 1 := by omega
    obtain ⟨q, hq⟩ : ∃ q, q = (lo + hi) % m := ⟨_, rfl⟩
    have hqm : q < m := by rw [hq]; exact Nat.mod_lt _ hm
    have hq9 : ((lo : Int) + (hi : Int)).tmod (m : Int) = (q : Int) := by rw [hq]; rfl
    obtain ⟨r, hr⟩ : ∃ r, r = V q % (hi - lo - 1) := ⟨_, rfl⟩
    have hrd : r < hi - lo - 1 := by rw [hr]; exact Nat.mod_lt _ (by omega)
    have hr9 : (V q : Int).tmod ((hi : Int) - (lo : Int) - 1) = (r : Int) := by rw [hr, show (hi : Int) - (lo : Int) - 1 = ((hi - lo - 1 : Nat) : Int) by omega]; rfl
    obtain ⟨k, hk⟩ : ∃ k, k = lo + 1 + r := ⟨_, rfl⟩
    have hk9 : (lo : Int) + 1 + (r : Int) = (k : Int) := by omega
    have hm9 : (0 : Int) < (m : Int) := by omega
    have hm8 : (m : Int) ≤ 65536 := by omega
    have hm0 : ¬ (m : Int) = 0 := by omega
    have hd0 : ¬ (hi : Int) - (lo : Int) - 1 = 0 := by omega
    have hqi : (q : Int) < (m : Int) := by omega
    have hq8 : (0 : Int) ≤ (q : Int) := by omega
    have hvq := hV9 q hqm
    have hr8 : (0 : Int) ≤ (r : Int) := by omega
    have hrx : (r : Int) ≤ 4096 := by omega
    have HQ := Lib.hid hq
    have HR := Lib.hid hr
    clear hq hr
    have hlk : lo < k := by omega
    have hkh : k < hi := by omega
    have HK := Lib.hid hk
    clear hk
    go_enter Try.func16, Try.ntmps16
    have fv0 : w.cell? ⟨sb, q, none⟩ = some (.int .u16 (V q : Int)) := hO.fcell hsp _ (spR_get hqm)
    go_wp2_with (first | (with_reducible refine Own.stay (fn := Try.f16) ?_) | fail)
    try with_reducible refine Own.Stay.mk ?_
    have HO := Lib.hid hO
    clear hO
    have hO := HO.out
    clear HO fv0
    generalize hW : World.alloc _ _ = W4
    have hN : Own w0 W4 [row (w.heap.size) 35 #[.nilIface, .int .i32 0]] X := by
      rw [← hW]
      exact (hO).alloc' _ (w.heap.size) (by simp)
    clear hW hO
    generalize w.heap.size = B3 at hN ⊢
    have hO := hN
    clear hN
    have hL := hO.apart
    have hX := hO.apartX
    have HL := Lib.hid hL
    have HX := Lib.hid hX
    clear hL hX
    have hP9 := hO.pick [] (by decide)
    have h9_hlo2 : lo < k := hlk
    have h9_hhi2 : k ≤ n := (by omega)
    have h9_hdd : k - lo < hi - lo := (by omega)
    have T9 := ih lo k _ _ _ hP9 (Or.inl hlv) (Or.inl hsp) h9_hlo2 h9_hhi2 h9_hdd
    refine Calls.mono T9 ?_
    clear hP9 T9 h9_hlo2 h9_hhi2 h9_hdd
    rintro e u5 ⟨nd6, rfl, pr7, hQ⟩
    have hN : Own w0 u5 [row (B3) 35 #[.nilIface, .int .i32 0]] (GX X D nd6) := hQ.backGX HL.out HX.out  (by
      intro r9 hr9
      simp only [List.mem_cons, List.not_mem_nil, or_false] at hr9
      subst hr9
      exact ⟨_, _, rfl, by decide⟩)
    clear hQ HL HX hO
    have hO := hN
    clear hN
    try simp only []
    obtain ⟨c9_0_0, c9_0_1, lt9_0, y9_0, -⟩ := hO.k2 0 rfl
    have HO := Lib.hid hO
    clear hO
    go_wp2_with (first | (with_reducible refine Own.stay (fn := Try.f16) ?_) | fail)
    try with_reducible refine Own.Stay.mk ?_
    have hO := HO.out
    clear HO c9_0_0 c9_0_1 lt9_0 y9_0
    have hL := hO.apart
    have hX := hO.apartX
    have HL := Lib.hid hL
    have HX := Lib.hid hX
    clear hL hX
    have hP9 := hO.pick [] (by decide)
    have h9_hlo2 : k < hi := hkh
    have h9_hdd : hi - k < hi - lo := (by omega)
    have T9 := ih k hi _ _ _ hP9 (Or.inl (Or.inl hlv)) (Or.inl (Or.inl hsp)) h9_hlo2 (by omega) h9_hdd
    refine Calls.mono T9 ?_
    clear hP9 T9 h9_hlo2 h9_hdd
    rintro e u8 ⟨nd9, rfl, pr10, hQ⟩
    have hN : Own w0 u8 [row (B3) 35 #[.nilIface, .int .i32 0]] (GX (GX X D nd6) D nd9) := hQ.backGX HL.out HX.out  (by
      intro r9 hr9
      simp only [List.mem_cons, List.not_mem_nil, or_false] at hr9
      subst hr9
      exact ⟨_, _, rfl, by decide⟩)
    clear hQ HL HX hO
    have hO := hN
    clear hN
    try simp only []
    obtain ⟨c9_0_0, c9_0_1, lt9_0, y9_0, -⟩ := hO.k2 0 rfl
    have HO := Lib.hid hO
    clear hO
    go_wp2_with (first | (with_reducible refine Own.stay (fn := Try.f16) ?_) | fail)
    try with_reducible refine Own.Stay.mk ?_
    have hO := HO.out
    clear HO c9_0_0 c9_0_1 lt9_0 y9_0
    have hL := hO.apart
    have hX := hO.apartX
    have HL := Lib.hid hL
    have HX := Lib.hid hX
    clear hL hX
    have hP9 := hO.pick [] (by decide)
    have T9 := commaT2 D nd6 nd9 _ _ _ hP9 
    refine Calls.mono T9 ?_
    clear hP9 T9
    rintro e u11 ⟨nd12, rfl, hQ⟩
    have hN : Own w0 u11 [row (nd12) 66 (binC D nd6 nd9), row (B3) 35 #[.nilIface, .int .i32 0]] (GX (GX X D nd6) D nd9) := hQ.back HL.out HX.out [0] (by decide) (by decide)
    clear hQ HL HX hO
    have hO := hN
    clear hN
    try simp only []
    obtain ⟨c9_1_0, c9_1_1, lt9_1, y9_1, -⟩ := hO.k2 1 rfl
    have HO := Lib.hid hO
    clear hO
    go_wp2_with (first | (with_reducible refine Own.stay (fn := Try.f16) ?_) | fail)
    try with_reducible refine Own.Stay.mk ?_
    have hO := HO.out
    clear HO c9_1_0 c9_1_1 lt9_1 y9_1
    generalize hW : World.setCell _ _ _ = W14
    have hN : Own w0 W14 [row (nd12) 66 (binC D nd6 nd9), row (B3) 35 #[.iface 63 (.pointer (some ⟨nd12, 0, none⟩)), .int .i32 (lV nd6)]] (GX (GX X D nd6) D nd9) := by
      rw [← hW]
      exact ((hO).set 1 rfl 0 _).set 1 rfl 1 _
    clear hW hO
    have hO := hN
    clear hN
    have z9_0 : W14.cell? ⟨B3, 0, none⟩ = some (.iface 63 (.pointer (some ⟨nd12, 0, none⟩))) := hO.cell 1 rfl 0 rfl
    have z9_1 : W14.cell? ⟨B3, 1, none⟩ = some (.int .i32 (lV nd6)) := hO.cell 1 rfl 1 rfl
    refine bodyPost_ret (v := .agg #[.iface 63 (.pointer (some ⟨nd12, 0, none⟩)), .int .i32 (lV nd6)]) ?_ rfl ⟨.node nd12 nd6 nd9, rfl, by show nd6.flat ++ nd9.flat = _; rw [pr7, pr10]; exact range_join (by omega) (by omega), Own.give (b := nd12) (o := .cells (binC D nd6 nd9) 66 (0, 0)) (hO.sub [0] (by decide)) (by
      rintro b o (h | ⟨l, r, h, e⟩)
      · exact Or.inl (Or.inl (Or.inl h))
      · cases h with
        | here => exact Or.inr ⟨rfl, e⟩
        | left h => exact Or.inl (Or.inl (Or.inr ⟨l, r, h, e⟩))
        | right h => exact Or.inl (Or.inr ⟨l, r, h, e⟩))⟩
    simp [results, Try.results16, go_sem, z9_0, z9_1]
end Go.Proofs.Ytdbnnpoffpipjaa.Use
