/- A string as UTF-16, walked: some slice of the call's own. No condition. -/
import Derived.Test.YtcbdjbjbikiaeaaDoorOwnK
import Derived.Test.YtcbdjbjbikiaeaaDoorOwn
import Derived.Test.YtcbdjbjbikiaeaaDoorDeepCells
import Derived.Test.YtcbdjbjbikiaeaaDoorRows
import Derived.Test.YtcbdjbjbikiaeaaDoorDead
import Derived.WalkKit
import Derived.Lib.OthersKept
import Derived.Lib.FieldsP
import Derived.Deep.LoopGhost
import Derived.OwnWalk
namespace Go.Proofs.YtcbdjbjbikiaeaaDoor.Use
open Go.ChangeShapes Go.WideShapes Go.ChangeAt Go.RowKit Go.Sort Own
set_option linter.unusedVariables false
theorem infoU16 : (Tryd.prog.info? 249).map (fun i => (i.zero, i.size, i.bytes)) = some (some (.int .u16 0), 1, 2) := by kernel_rfl
theorem own_iterAt {w : World} {B e size n : Nat} {v : Value} {xs : List Value} {k : Nat} {s : ByteArray} {pos : Nat} (h : w.ownsRow B e size v n xs) (hk : w.heap[k]? = some (.stringIter s pos)) (pos' : Nat) : (w.iterAt k s pos').ownsRow B e size v n xs := by
  refine ⟨h.1, ?_⟩
  rcases h.2 with h0 | ⟨g, cap, cur, hv, hb, hg, rest⟩
  · exact .inl h0
  · refine .inr ⟨g, cap, cur, hv, hb, ?_, rest⟩
    rw [Lib.iterAt_other _ _ _ _ _ (fun e => by subst e; rw [hk] at hg; cases hg)]
    exact hg
theorem own_ne_iter {w : World} {B e size n : Nat} {v : Value} {xs : List Value} {k : Nat} {s : ByteArray} {pos : Nat} (h : w.ownsRow B e size v n xs) (hk : w.heap[k]? = some (.stringIter s pos)) : some k ≠ v.ownBlock := by
  rcases h.2 with ⟨rfl, _⟩ | ⟨g, cap, cur, rfl, hb, hg, rest⟩
  · simp [Value.ownBlock]
  · intro e
    simp only [Value.ownBlock, Option.some.injEq] at e
    subst e
    rw [hk] at hg
    cases hg
theorem cell_one_new (w : World) (x : Value) (t : TypeId) : ∀ j u, [x][j]? = some u → (w.alloc (.cells #[x] t)).cell? ((⟨w.heap.size, 0, none⟩ : Addr).add j) = some u := by
  intro j u hj
  match j, hj with
  | 0, hj => simp at hj; subst hj; simp [Addr.add]
theorem cell_two_new (w : World) (x y : Value) (t : TypeId) : ∀ j u, [x, y][j]? = some u → (w.alloc (.cells #[x, y] t)).cell? ((⟨w.heap.size, 0, none⟩ : Addr).add j) = some u := by
  intro j u hj
  match j, hj with
  | 0, hj => simp at hj; subst hj; simp [Addr.add]
  | 1, hj => simp at hj; subst hj; simp [Addr.add]
set_option maxHeartbeats 4000000 in
set_option maxRecDepth 1000000 in
theorem toU16raw (s : ByteArray) (hs : s.size ≤ 1048576) (w : World) : Calls Tryd.prog 33 #[.string s] w fun e w' => ∃ g n c, e = .returned (.slice (some ⟨g, 0, none⟩) n c) ∧ Below w.heap.size w w' := by
  obtain ⟨i0, hi, hz0, hz1, hz2⟩ := info_parts infoU16
  obtain ⟨W0, hmk, hown0, hg0⟩ := run_make_own (P := Tryd.prog) w w.heap.size 196 249 i0 _ 1 Tryd.underlying196 hi hz0 hz1 .i64 .i64 s.size (by rw [hz2]; omega) (by unfold maxLen; omega) (Nat.le_refl _)
  have hb0 : Below w.heap.size w W0 := (Below.refl _ w).grown hg0 (Nat.le_refl _) (fun k hk => by cases hk)
  go_enter Tryd.func33, Tryd.ntmps33
  go_wp2
  go_loopg [3] s.size (fun gf s5 wx => ∃ (pos : Nat) (acc : List Value), wx.ownsRow w.heap.size 249 1 s5 acc.length acc ∧ wx.heap[W0.heap.size]? = some (.stringIter s pos) ∧ Below w.heap.size w wx ∧ s.size ≤ pos + gf ∧ pos ≤ s.size ∧ acc.length ≤ 2 * pos ∧ s5 ≠ .slice none 0 0)
  case atStart => exact ⟨0, [], hown0.alloc _, World.iter_heap W0 s 0, hb0.alloc hb0.size _, by omega, Nat.zero_le _, Nat.zero_le _, (fun h => by cases h)⟩
  case round =>
    obtain ⟨pos, acc, hown, hit, hbw, hfu, hps, hal, hnn⟩ := hrel
    by_cases hlt : pos < s.size
    · obtain ⟨g', rfl⟩ : ∃ g', gk = g' + 1 := ⟨gk - 1, by omega⟩
      have hnx : ∀ ty, (Instr.next (.pointer (some ⟨W0.heap.size, 0, none⟩)) true ty).run Tryd.prog wr = _ := fun ty => Lib.run_next_any_at wr W0.heap.size s pos ty hit hlt
      have hwd := Lib.width_pos s pos
      have hwn : pos + (Utf8.decode s pos).2 ≤ s.size := by
        have := Lib.decodeN_le_n' (s.size - pos) (s.get! pos).toNat (s.get! (pos + 1)).toNat (s.get! (pos + 2)).toNat (s.get! (pos + 3)).toNat (by omega)
        rw [← Lib.decode_at] at this
        omega
      have hrl := Lib.rune_le s pos
      obtain ⟨R, hR⟩ : ∃ R, (Utf8.decode s pos).1 = R := ⟨_, rfl⟩
      obtain ⟨K, hK⟩ : ∃ K, (Utf8.decode s pos).2 = K := ⟨_, rfl⟩
      rw [hR, hK] at hnx
      rw [hK] at hwd hwn
      rw [hR] at hrl
      have hit2 := Lib.iterAt_heap wr W0.heap.size s pos (pos + K) hit
      have hbw2 := Lib.below_iterAt hbw (k := W0.heap.size) hb0.size s (pos + K)
      have hown2 := own_iterAt hown hit (pos + K)
      obtain ⟨W, hWd⟩ : ∃ W, wr.iterAt W0.heap.size s (pos + K) = W := ⟨_, rfl⟩
      rw [hWd] at hnx hit2 hbw2 hown2
      clear hown hit hbw hR hK hWd
      have hIT : W0.heap.size < W.heap.size := (Array.getElem?_eq_some_iff.1 hit2).1
      by_cases h16 : (R : Int) ≤ 65535
      · go_wp2_with (at_builtin; go_must (refine wpList_append_own _ rfl (.tmp 16) (.tmp 19) 196 rfl w.heap.size 249 i0 (.int .u16 0) 1 2 Tryd.underlying196 hi hz0 hz1 hz2 rfl (by decide) _ _ _ rfl (hown2.alloc _) ⟨W.heap.size, 0, none⟩ 1 1 [.int .u16 (R : Int)] rfl rfl (cell_one_new W _ _) (by intro u hu; simp at hu; first | (subst hu; rfl) | (rcases hu with rfl | rfl <;> rfl)) (by unfold maxLen; omega) (by omega) (by have := hbw2.size; simp; omega) ?_; intro v3 w3 hown3 hgrow3 hnil3))
        go_roundg g'
        case measure => omega
        case rel =>
          have hX := hown2.alloc (.cells #[.int .u16 (R : Int)] 249)
          refine ⟨pos + K, acc ++ [.int .u16 (R : Int)], by rw [List.length_append]; exact hown3, ?_, ?_, by omega, hwn, by simp; omega, fun h => by have := (hnil3.1 h).2; omega⟩
          · exact (hgrow3.block W0.heap.size (by simp; omega) (own_ne_iter hown2 hit2)).trans ((Below.heap_alloc _ _ _ hIT).trans hit2)
          · exact (hbw2.alloc (by have := hbw2.size; exact this) _).grown hgrow3 (by have := hbw2.size; simp; omega) (fun j hj => (hX.lt j hj).1)
      · go_wp2_with (at_builtin; go_must (refine wpList_append_own _ rfl (.tmp 23) (.tmp 33) 196 rfl w.heap.size 249 i0 (.int .u16 0) 1 2 Tryd.underlying196 hi hz0 hz1 hz2 rfl (by decide) _ _ _ rfl (hown2.alloc _) ⟨W.heap.size, 0, none⟩ 2 2 [_, _] rfl rfl (cell_two_new W _ _ _) (by intro u hu; simp at hu; first | (subst hu; rfl) | (rcases hu with rfl | rfl <;> rfl)) (by unfold maxLen; omega) (by omega) (by have := hbw2.size; simp; omega) ?_; intro v3 w3 hown3 hgrow3 hnil3))
        go_roundg g'
        case measure => omega
        case rel =>
          have hX := hown2.alloc (.cells #[.int .u16 (R : Int)] 249)
          refine ⟨pos + K, _, by rw [List.length_append]; exact hown3, ?_, ?_, by omega, hwn, by simp; omega, fun h => by have := (hnil3.1 h).2; omega⟩
          · exact (hgrow3.block W0.heap.size (by simp; omega) (own_ne_iter hown2 hit2)).trans ((Below.heap_alloc _ _ _ hIT).trans hit2)
          · exact (hbw2.alloc (by have := hbw2.size; exact this) _).grown hgrow3 (by have := hbw2.size; simp; omega) (fun j hj => (hX.lt j hj).1)
    · obtain rfl : pos = s.size := by omega
      have hnx : ∀ ty, (Instr.next (.pointer (some ⟨W0.heap.size, 0, none⟩)) true ty).run Tryd.prog wr = _ := fun ty => Lib.run_next_end_at wr W0.heap.size s s.size ty hit hlt
      obtain ⟨g5, n5, c5, hv⟩ : ∃ g5 n5 c5, u3 = .slice (some ⟨g5, 0, none⟩) n5 c5 := by
        rcases hown.2 with ⟨h, _⟩ | ⟨g5, cap5, _, h, _⟩
        · exact absurd h hnn
        · exact ⟨g5, _, cap5, h⟩
      subst hv
      clear hown hnn
      go_wp2
      go_returns
      exact ⟨_, _, _, rfl, hbw⟩

def toU16Post (nm : ByteArray) (w0 : World) (X : Nat → Obj → Prop) (e : Ending) (w' : World) : Prop :=
  ∃ gs : Nat, ∃ ln : Nat, ∃ cp : Nat, e = .returned (.slice (some ⟨gs, 0, none⟩) ln cp) ∧ Own w0 w' [] X
theorem toU16 (nm : ByteArray) (w0 w : World) (X : Nat → Obj → Prop) (hO : Own w0 w [] X) (hlen : nm.size ≤ 1048576) :
    Calls Tryd.prog 33 #[.string nm] w (toU16Post nm w0 X) := by
  refine Calls.mono (toU16raw nm hlen w) ?_
  rintro e w' ⟨g, n, c, rfl, hb⟩
  exact ⟨g, n, c, rfl, hO.step hb⟩
end Go.Proofs.YtcbdjbjbikiaeaaDoor.Use
