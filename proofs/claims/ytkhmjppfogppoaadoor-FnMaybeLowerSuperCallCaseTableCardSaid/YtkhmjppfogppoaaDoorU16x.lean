/- A string as UTF-16, walked: its units. No condition. -/
import Derived.Test.YtkhmjppfogppoaaDoorAppL
import Derived.Test.YtkhmjppfogppoaaDoorLoop
import Derived.Test.YtkhmjppfogppoaaDoorLive
import Derived.Test.YtkhmjppfogppoaaDoorApp
import Derived.Test.YtkhmjppfogppoaaDoorOwnK
import Derived.Test.YtkhmjppfogppoaaDoorOwn
import Derived.Test.YtkhmjppfogppoaaDoorDeepCells
import Derived.Test.YtkhmjppfogppoaaDoorRows
import Derived.Test.YtkhmjppfogppoaaDoorUse
import Derived.Lib.DecodeNEq
import Derived.WalkKit
import Derived.Lib.OthersKept
import Derived.Lib.FieldsP
import Derived.Deep.LoopGhost
import Derived.OwnWalk
namespace Go.Proofs.YtkhmjppfogppoaaDoor.Use
open Go.ChangeShapes Go.WideShapes Go.ChangeAt Go.RowKit Go.Sort Own
set_option linter.unusedVariables false
/-- The units of a rune, as the code computes them. -/
def unitsOf (r : Nat) : List Value := if r ≤ 65535 then [.int .u16 (r : Int)] else [.int .u16 (55296 + (((r - 65536) / 1024 % 1024 : Nat) : Int)), .int .u16 (56320 + (((r - 65536) % 1024 : Nat) : Int))]
def u16f : Nat → ByteArray → Nat → List Value
  | 0, _, _ => []
  | g + 1, s, pos => if pos < s.size then unitsOf (Utf8.decode s pos).1 ++ u16f g s (pos + (Utf8.decode s pos).2) else []
/-- A string as UTF-16. -/
def u16L (s : ByteArray) : List Value := u16f s.size s 0
theorem u16f_end (g : Nat) (s : ByteArray) (pos : Nat) (h : ¬ pos < s.size) : u16f g s pos = [] := by
  cases g with
  | zero => rfl
  | succ g => rw [u16f, if_neg h]
theorem u16f_step (g : Nat) (s : ByteArray) (pos : Nat) (h : pos < s.size) : u16f (g + 1) s pos = unitsOf (Utf8.decode s pos).1 ++ u16f g s (pos + (Utf8.decode s pos).2) := by rw [u16f, if_pos h]
theorem own_iter {w0 w : World} {L : List Rw} {X : Nat → Obj → Prop} (h : Own w0 w L X) (i : Nat) {k : Nat} {s : ByteArray} {pos : Nat} (hi : L[i]? = some (k, .stringIter s pos)) (pos' : Nat) : Own w0 (w.iterAt k s pos') (L.set i (k, .stringIter s pos')) X :=
  h.turn i hi (Nat.le_of_eq (Lib.iterAt_size w k s pos').symm) rfl rfl rfl (Lib.iterAt_heap w k s pos pos' (h.get i hi)) (fun q hq _ => Lib.iterAt_other w k q s pos' hq)
def u16Z : Array Value := #[.int .u16 0]
theorem infoU16x : (Tryd.prog.info? 51).map (fun i => (i.zero, i.size, i.bytes)) = some (some (.int .u16 0), 1, 2) := by kernel_rfl
theorem makeU16c (n : Nat) (hn : n ≤ 1048576) (w : World) : (Instr.makeSlice 38 (.int .i64 0) (.int .i64 (n : Int))).run Tryd.prog w = .ok (.slice (some ⟨w.heap.size, 0, none⟩) 0 n) (w.alloc (.cells (full u16Z [] n) 51)) := by
  obtain ⟨i, hi, z1, z2, z3⟩ := info_parts infoU16x
  exact run_mk_full w 38 51 i (.int .u16 0) 1 2 Tryd.underlying38 hi z1 z2 z3 rfl .i64 .i64 0 n (Nat.zero_le _) (by omega) (by omega)
theorem wrap_u16x (n : Int) : IntKind.u16.wrap n = n % 65536 := by simp [IntKind.wrap, IntKind.bits, IntKind.signed]
theorem i32_and1023 (b : Int) (h0 : 0 ≤ b) (h : b < 2147483648) : bits .and .i32 b 1023 = b % 1024 := bits_mask .i32 31 (by decide) wraps_i32 10 (by decide) b h0 (by omega)
theorem unitsOf_lo {r : Nat} (h : r ≤ 65535) : unitsOf r = [.int .u16 (r : Int)] := if_pos h
theorem unitsOf_hi {r : Nat} (h : ¬ r ≤ 65535) : unitsOf r = [.int .u16 (55296 + (((r - 65536) / 1024 % 1024 : Nat) : Int)), .int .u16 (56320 + (((r - 65536) % 1024 : Nat) : Int))] := if_neg h
theorem u16_next {acc news : List Value} {g : Nat} {s : ByteArray} {pos R K : Nat} (h : acc ++ u16f (g + 1) s pos = u16L s) (hlt : pos < s.size) (hd : Utf8.decode s pos = (R, K)) (hn : news = unitsOf R) : (acc ++ news) ++ u16f g s (pos + K) = u16L s := by
  rw [u16f_step g s pos hlt, hd] at h
  rw [hn, List.append_assoc]
  exact h
theorem u16_last {acc : List Value} {g : Nat} {s : ByteArray} {pos : Nat} (h : acc ++ u16f g s pos = u16L s) (hlt : ¬ pos < s.size) : u16L s = acc := by
  rw [u16f_end g s pos hlt, List.append_nil] at h
  exact h.symm
def toU16xPost (nm : ByteArray) (w0 : World) (X : Nat → Obj → Prop) (e : Ending) (w' : World) : Prop :=
  ∃ ub : Nat, ∃ cz : Nat, e = .returned (.slice (some ⟨ub, 0, none⟩) (u16L nm).length ((u16L nm).length + cz)) ∧ Own w0 w' [row (ub) 51 (full u16Z (u16L nm) cz)] X
set_option maxHeartbeats 4000000 in
set_option maxRecDepth 1000000 in
theorem toU16x (nm : ByteArray) (w0 w : World) (X : Nat → Obj → Prop) (hO : Own w0 w [] X) (hlen : nm.size ≤ 1048576) :
    Calls Tryd.prog 54 #[.string nm] w (toU16xPost nm w0 X) := by
  obtain ⟨i0, hi, hz0, hz1, hz2⟩ := info_parts infoU16x
  obtain ⟨W0, hW0⟩ : ∃ W0, W0 = w.alloc (.cells (full u16Z [] nm.size) 51) := ⟨_, rfl⟩
  have hmk := makeU16c nm.size hlen w
  rw [← hW0] at hmk
  have hO0 : Own w0 W0 [row w.heap.size 51 (full u16Z [] nm.size)] X := hW0 ▸ hO.alloc _
  clear hW0
  have hO1 : Own w0 (W0.iter nm 0) [(W0.heap.size, .stringIter nm 0), row w.heap.size 51 (full u16Z [] nm.size)] X := hO0.alloc _
  have hlen9 : (nm.size : Int) ≤ 1048576 := by omega
  go_enter Tryd.func54, Tryd.ntmps54
  go_wp2
  go_loopg [3] nm.size (fun gf s5 wx => ∃ (pos : Nat) (acc : List Value) (ub c : Nat), s5 = .slice (some ⟨ub, 0, none⟩) acc.length (acc.length + c) ∧ Own w0 wx [row ub 51 (full u16Z acc c), (W0.heap.size, .stringIter nm pos)] X ∧ nm.size ≤ pos + gf ∧ pos ≤ nm.size ∧ acc.length ≤ 2 * pos ∧ acc ++ u16f gf nm pos = u16L nm)
  case atStart => exact ⟨0, [], w.heap.size, nm.size, by simp, hO1.sub [1, 0] (by decide), by omega, Nat.zero_le _, Nat.zero_le _, rfl⟩
  case round =>
    obtain ⟨pos, acc, ub, c, rfl, hR, hfu, hps, hal, hsum⟩ := hrel
    by_cases hlt : pos < nm.size
    · obtain ⟨g', rfl⟩ : ∃ g', gk = g' + 1 := ⟨gk - 1, by omega⟩
      have hit := hR.get 1 rfl
      have hnx : ∀ ty, (Instr.next (.pointer (some ⟨W0.heap.size, 0, none⟩)) true ty).run Tryd.prog wr = _ := fun ty => Lib.run_next_any_at wr W0.heap.size nm pos ty hit hlt
      have hwd := Lib.width_pos nm pos
      have hwn : pos + (Utf8.decode nm pos).2 ≤ nm.size := by
        have := Lib.decodeN_le_n' (nm.size - pos) (nm.get! pos).toNat (nm.get! (pos + 1)).toNat (nm.get! (pos + 2)).toNat (nm.get! (pos + 3)).toNat (by omega)
        rw [← Lib.decode_at] at this
        omega
      have hrl := Lib.rune_le nm pos
      obtain ⟨R, hR9⟩ : ∃ R, (Utf8.decode nm pos).1 = R := ⟨_, rfl⟩
      obtain ⟨K, hK⟩ : ∃ K, (Utf8.decode nm pos).2 = K := ⟨_, rfl⟩
      have hdc : Utf8.decode nm pos = (R, K) := by rw [← hR9, ← hK]
      rw [hR9, hK] at hnx
      rw [hK] at hwd hwn
      rw [hR9] at hrl
      have hR2 := (own_iter hR 1 rfl (pos + K)).sub [0, 1] (by decide)
      obtain ⟨W, hWd⟩ : ∃ W, wr.iterAt W0.heap.size nm (pos + K) = W := ⟨_, rfl⟩
      rw [hWd] at hnx hR2
      clear hR hit hR9 hK hWd
      by_cases h16 : (R : Int) ≤ 65535
      · go_wp2_with (at_builtin; go_must (refine Own.wpList_append_full rfl (.tmp 16) (.tmp 19) 38 rfl 51 i0 (.int .u16 0) 1 2 Tryd.underlying38 hi hz0 hz1 hz2 rfl (by decide) ((hR2.alloc (.cells #[_] 51)).pick [1, 0] (by decide)) rfl rfl (Nat.mul_one _).symm rfl rfl (oneAll rfl) (by unfold maxLen; omega) (by omega) ?_; intro g9 c9 w9 hQ))
        go_roundg g'
        case measure => omega
        case rel =>
          have hA := hR2.alloc (.cells #[.int .u16 (R : Int)] 51)
          refine ⟨pos + K, acc ++ _, g9, c9, by rw [List.length_append]; rfl, (hQ.back hA.apart hA.apartX [2] (by decide) (by decide)).sub [0, 2] (by decide), by omega, hwn, by rw [List.length_append]; simp; omega, u16_next hsum hlt hdc ?_⟩
          exact (unitsOf_lo (by omega)).symm
      · go_wp2_with (at_builtin; go_must (refine Own.wpList_append_full rfl (.tmp 23) (.tmp 33) 38 rfl 51 i0 (.int .u16 0) 1 2 Tryd.underlying38 hi hz0 hz1 hz2 rfl (by decide) ((hR2.alloc (.cells #[_, _] 51)).pick [1, 0] (by decide)) rfl rfl (Nat.mul_one _).symm rfl rfl (oneAll rfl) (by unfold maxLen; omega) (by omega) ?_; intro g9 c9 w9 hQ))
        have e1 := i32_and1023 (((R : Int) - 65536) / 1024) (by omega) (by omega)
        have e2 := i32_and1023 ((R : Int) - 65536) (by omega) (by omega)
        have v1 : IntKind.u16.wrap (wrap32 (55296 + bits .and .i32 (((R : Int) - 65536) / 1024) 1023)) = 55296 + (((R - 65536) / 1024 % 1024 : Nat) : Int) := by
          rw [e1, wrap_u16x, wrap32]
          omega
        have v2 : IntKind.u16.wrap (wrap32 (56320 + bits .and .i32 ((R : Int) - 65536) 1023)) = 56320 + (((R - 65536) % 1024 : Nat) : Int) := by
          rw [e2, wrap_u16x, wrap32]
          omega
        rw [v1, v2] at hQ
        go_roundg g'
        case measure => omega
        case rel =>
          have hA := hR2.alloc (.cells #[Value.int .u16 (55296 + (((R - 65536) / 1024 % 1024 : Nat) : Int)), Value.int .u16 (56320 + (((R - 65536) % 1024 : Nat) : Int))] 51)
          exact ⟨pos + K, acc ++ [Value.int .u16 (55296 + (((R - 65536) / 1024 % 1024 : Nat) : Int)), Value.int .u16 (56320 + (((R - 65536) % 1024 : Nat) : Int))], g9, c9, by rw [List.length_append]; rfl, (hQ.back hA.apart hA.apartX [2] (by decide) (by decide)).sub [0, 2] (by decide), by omega, hwn, by rw [List.length_append]; simp <;> omega, u16_next hsum hlt hdc (unitsOf_hi (by omega)).symm⟩
    · obtain rfl : pos = nm.size := by omega
      have hit := hR.get 1 rfl
      have hnx : ∀ ty, (Instr.next (.pointer (some ⟨W0.heap.size, 0, none⟩)) true ty).run Tryd.prog wr = _ := fun ty => Lib.run_next_end_at wr W0.heap.size nm nm.size ty hit hlt
      have hend := u16_last hsum hlt
      have HR := Lib.hid hR
      clear hR hit
      go_wp2
      go_returns
      exact ⟨ub, c, by rw [hend]; rfl, by rw [hend]; exact HR.out.sub [0] (by decide)⟩
end Go.Proofs.YtkhmjppfogppoaaDoor.Use
