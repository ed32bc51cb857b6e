/- The tables of unicode.SimpleFold, as the program's text lays them: what the laws' rows tell of them. No condition. -/
import Derived.Test.YthgpfmihbmhlhaaDoorCtn
import Derived.Test.YthgpfmihbmhlhaaDoorRows
import Derived.ProofKit
import Derived.OpenVars
import Derived.MakeChecks
import Derived.OpenShut
import Derived.Deep.SlicePairs
namespace Go.Proofs.YthgpfmihbmhlhaaDoor.Tag
open Go.ChangeShapes Go.WideShapes Go.ChangeAt Go.RowKit
set_option linter.unusedVariables false
theorem asc_eq : (Rows.laid_unicode_asciiFold : DataW Unit) = .agg (ascZ.map fun n => .lit (.int .u16 n)) := by kernel_rfl
def pairD (k : Nat) : DataW Unit := .agg [.lit (.int .u16 (orbZ.getD (2 * k) 0)), .lit (.int .u16 (orbZ.getD (2 * k + 1) 0))]
theorem orb_eq : (Rows.laid_unicode_caseOrbit : DataW Unit) = .slice ((List.range 94).map pairD) [] := by kernel_rfl
def LAID : List (String × DataW Unit) := [("unicode/utf8.acceptRanges", Rows.laid_unicode_utf8_acceptRanges), ("unicode.asciiFold", Rows.laid_unicode_asciiFold), ("unicode.caseOrbit", Rows.laid_unicode_caseOrbit), ("unicode.CaseRanges", Rows.laid_unicode_CaseRanges), ("unicode/utf8.first", Rows.laid_unicode_utf8_first)]
theorem fold_cell {W : World} {cs : Array Value} {fuel : Nat} {p : List MemPlace} (hg : Tryd.prog.globalNamed "unicode.asciiFold" = some 0) (hv : W.var? Tryd.prog "unicode.asciiFold" = some cs)
    (hd : DataW.trod (fun _ => ()) Tryd.prog W 0 (fun _ => true) false fuel 31 cs.toList = some (Rows.laid_unicode_asciiFold, p)) (r : Nat) (hr : r < 128) : W.cell? ⟨0, r, none⟩ = some (.int .u16 (ascZ.getD r 0)) := by
  obtain ⟨xs, m, _, ex, _, hl, hel⟩ := DataW.trod_array Tryd.underlying31 hd
  have c5 : Tryd.prog.cellsOf 30 = 1 := by kernel_rfl
  have hE := hel r hr
  rw [c5, Nat.mul_one, List.getElem?_eq_getElem (by omega)] at hE
  obtain ⟨z, e1, e2, _⟩ := DataW.trod_int Tryd.underlying30 hE
  have hlen : ascZ.length = 128 := by kernel_rfl
  have e3 : (xs.map (·.1)) = ascZ.map fun n => .lit (.int .u16 n) := (DataW.agg.inj (asc_eq.symm.trans (Prod.mk.inj ex).1)).symm
  have e4 : (xs.map (·.1))[r]? = (ascZ.map fun n => (DataW.lit (.int .u16 n) : DataW Unit))[r]? := by rw [e3]
  rw [List.getElem?_map, List.getElem?_map, List.getElem?_eq_getElem (by omega : r < xs.length), List.getElem?_eq_getElem (by omega : r < ascZ.length), e2] at e4
  have hz : z = ascZ.getD r 0 := by
    simp only [Option.map_some, Option.some.injEq, DataW.lit.injEq, Lit.int.injEq, true_and] at e4
    rw [e4, List.getD, List.getElem?_eq_getElem (by omega : r < ascZ.length)]; rfl
  rw [World.var?_cell hg hv r, ← hz]
  have : cs.toList[r]? = some (.int .u16 z) := by
    have h0 : ((cs.toList.drop r).take 1)[0]? = some (.int .u16 z) := by rw [e1]; rfl
    simpa using h0
  simpa using this
theorem orbit_cells {W : World} {cs : Array Value} {fuel : Nat} {p : List MemPlace} (hg : Tryd.prog.globalNamed "unicode.caseOrbit" = some 1) (hv : W.var? Tryd.prog "unicode.caseOrbit" = some cs)
    (hd : DataW.trod (fun _ => ()) Tryd.prog W 0 (fun _ => true) false fuel 32 cs.toList = some (Rows.laid_unicode_caseOrbit, p)) :
    ∃ b o c, W.cell? ⟨1, 0, none⟩ = some (.slice (some ⟨b, o, none⟩) 94 c) ∧ ∀ k, k < 188 → W.cell? ⟨b, o + k, none⟩ = some (.int .u16 (orbZ.getD k 0)) := by
  have ce : Tryd.prog.cellsOf 35 = 2 := by kernel_rfl
  have c0 : Tryd.prog.cellsOf 30 = 1 := by kernel_rfl
  have hsp := @World.var?_cell _ _ _ _ _ hg hv
  rcases Deep.open_slice_pairs Tryd.underlying32 Tryd.underlying35 ce rfl rfl c0 c0 hd with ⟨_, h1⟩ | ⟨a, len, cap, m, n, V0, V1, D0, D1, P0, P1, hcs, hb, hl, hm, hmm, hx, hall⟩
  · have := (Prod.mk.inj h1).1
    rw [orb_eq] at this
    cases this
  · have h2 := (Prod.mk.inj hx).1
    rw [orb_eq] at h2
    injection h2 with h3 h4
    have hlen : len = 94 := by
      have := congrArg List.length h3
      simpa using this.symm
    subst hlen
    have hm94 : 94 ≤ m := by rw [hmm, if_pos rfl]; exact hl
    obtain ⟨b, o, spot⟩ := a
    have hs0 : spot = none := by
      have h5 := (hall 0 (by omega)).1
      simp only [Addr.add, Nat.zero_mul, if_true, World.cell?] at h5
      cases spot with
      | none => rfl
      | some t =>
        split at h5
        · simp at h5
        · cases h5
    subst hs0
    refine ⟨b, o, cap, ?_, fun k hk => ?_⟩
    · rw [hsp 0]
      have : cs.toList[0]? = some (.slice (some ⟨b, o, none⟩) 94 cap) := by rw [hcs]; rfl
      simpa using this
    · have hadd : ∀ j, (⟨b, o, none⟩ : Addr).add j = ⟨b, o + j, none⟩ := by
        intro j
        unfold Addr.add
        split
        · rename_i h; rw [h]; rfl
        · rfl
      have hi : k / 2 < 94 := by omega
      obtain ⟨e0, e1, d0, d1⟩ := hall (k / 2) (by omega)
      obtain ⟨z0, y0, y1, _⟩ := DataW.trod_int Tryd.underlying30 d0
      obtain ⟨z1, x0, x1, _⟩ := DataW.trod_int Tryd.underlying30 d1
      have hp : pairD (k / 2) = .agg [D0 (k / 2), D1 (k / 2)] := by
        have h6 : ((List.range 94).map pairD)[k / 2]? = ((List.range 94).map fun i => DataW.agg [D0 i, D1 i])[k / 2]? := by rw [h3]
        rw [List.getElem?_map, List.getElem?_map, List.getElem?_range hi] at h6
        exact Option.some.inj h6
      rw [(Prod.mk.inj y1).1, (Prod.mk.inj x1).1] at hp
      simp only [pairD, DataW.agg.injEq, List.cons.injEq, DataW.lit.injEq, Lit.int.injEq, true_and, and_true] at hp
      rw [hadd] at e0 e1
      rcases Nat.mod_two_eq_zero_or_one k with hr | hr
      · have hk2 : k = 2 * (k / 2) := by omega
        rw [show k / 2 * 2 = k by omega] at e0
        rw [e0, List.cons.inj y0 |>.1, ← hp.1, ← hk2]
      · have hk2 : 2 * (k / 2) + 1 = k := by omega
        rw [show k / 2 * 2 + 1 = k by omega] at e1
        rw [e1, List.cons.inj x0 |>.1, ← hp.2, hk2]
theorem tabsOfLaid {W : World} (h : laidMetH Tryd.prog LAID W) : Tabs W := by
  rw [MakeChecks.laidMetH_plain _ _ _ (by kernel_rfl)] at h
  obtain ⟨ps, ⟨g0, t0, cs0, f0, p0, q0, hg0, ht0, hv0, hd0, ⟨g1, t1, cs1, f1, p1, q1, hg1, ht1, hv1, hd1, ⟨g2, t2, cs2, f2, p2, q2, hg2, ht2, hv2, hd2, _, _⟩, _⟩, _⟩, _, _⟩ := h
  obtain rfl : 0 = g1 := Option.some.inj (Eq.trans (by kernel_rfl) hg1)
  obtain rfl : 31 = t1 := Option.some.inj (Eq.trans (by kernel_rfl) ht1)
  obtain rfl : 1 = g2 := Option.some.inj (Eq.trans (by kernel_rfl) hg2)
  obtain rfl : 32 = t2 := Option.some.inj (Eq.trans (by kernel_rfl) ht2)
  exact ⟨fold_cell hg1 hv1 hd1, orbit_cells hg2 hv2 hd2⟩
end Go.Proofs.YthgpfmihbmhlhaaDoor.Tag
