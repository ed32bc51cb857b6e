/- A string as UTF-16, walked: its units. No condition. -/
import Derived.Test.YtkhmjppfogppoaaDoorU16x
import Derived.Test.YtkhmjppfogppoaaDoorAppL
import Derived.Test.YtkhmjppfogppoaaDoorLoop
import Derived.Test.YtkhmjppfogppoaaDoorLive
import Derived.Test.YtkhmjppfogppoaaDoorApp
import Derived.Test.YtkhmjppfogppoaaDoorOwnK
import Derived.Test.YtkhmjppfogppoaaDoorOwn
import Derived.Test.YtkhmjppfogppoaaDoorDeepCells
import Derived.Test.YtkhmjppfogppoaaDoorRows
import Derived.Test.YtkhmjppfogppoaaDoorUse
import Derived.Lib.DecodeNEq
import Derived.WalkKit
import Derived.Lib.OthersKept
import Derived.Lib.FieldsP
import Derived.Deep.LoopGhost
import Derived.Deep.CutRange
import Derived.OwnWalk
namespace Go.Proofs.YtkhmjppfogppoaaDoor.Use
open Go.ChangeShapes Go.WideShapes Go.ChangeAt Go.RowKit Go.Sort Own
set_option linter.unusedVariables false
namespace Hd
open Go.Lib
def lo3 (b0 : Nat) : Nat := if b0 = 224 then 160 else 128
def hi3 (b0 : Nat) : Nat := if b0 = 237 then 159 else 191
def lo4 (b0 : Nat) : Nat := if b0 = 240 then 144 else 128
def hi4 (b0 : Nat) : Nat := if b0 = 244 then 143 else 191
theorem hdA {n b0 b1 b2 b3 : Nat} (h : b0 < 128) : decodeN n b0 b1 b2 b3 = (b0, 1) := by unfold decodeN; rw [if_pos h]
theorem hdX {n b0 b1 b2 b3 : Nat} (h0 : b0 < 256) (h : (128 ≤ b0 ∧ b0 < 194) ∨ 245 ≤ b0) : decodeN n b0 b1 b2 b3 = (65533, 1) := by
  apply bad_eq _ _ _ _ _ h0
  unfold firstT
  repeat' split
  all_goals omega
set_option maxRecDepth 100000 in
set_option maxHeartbeats 4000000 in
theorem hd2 {n b0 b1 b2 b3 : Nat} (hb : 194 ≤ b0 ∧ b0 < 224) (hn : 2 ≤ n) (h1 : b1 / 64 = 2) : decodeN n b0 b1 b2 b3 = (b0 % 32 * 64 + b1 % 64, 2) := by
  unfold decodeN
  repeat' split
  all_goals first | (exfalso; omega) | (apply Prod.ext <;> simp only <;> omega)
set_option maxRecDepth 100000 in
set_option maxHeartbeats 4000000 in
theorem hd2x {n b0 b1 b2 b3 : Nat} (hb : 194 ≤ b0 ∧ b0 < 224) (h : ¬ (2 ≤ n ∧ b1 / 64 = 2)) : decodeN n b0 b1 b2 b3 = (65533, 1) := by
  unfold decodeN
  repeat' split
  all_goals first | (exfalso; omega) | (apply Prod.ext <;> simp only <;> omega)
set_option maxRecDepth 100000 in
set_option maxHeartbeats 4000000 in
theorem hd3 {n b0 b1 b2 b3 : Nat} (hb : 224 ≤ b0 ∧ b0 < 240) (hn : 3 ≤ n) (h1 : lo3 b0 ≤ b1) (h1h : b1 ≤ hi3 b0) (h2 : b2 / 64 = 2) : decodeN n b0 b1 b2 b3 = (b0 % 16 * 4096 + b1 % 64 * 64 + b2 % 64, 3) := by
  unfold lo3 at h1
  unfold hi3 at h1h
  split at h1 <;> split at h1h <;> (unfold decodeN; repeat' split) <;> first | (exfalso; omega) | (apply Prod.ext <;> simp only <;> omega)
set_option maxRecDepth 100000 in
set_option maxHeartbeats 4000000 in
theorem hd3x {n b0 b1 b2 b3 : Nat} (h3 : b1 < 256) (hb : 224 ≤ b0 ∧ b0 < 240) (h : ¬ (3 ≤ n ∧ lo3 b0 ≤ b1 ∧ b1 ≤ hi3 b0 ∧ b2 / 64 = 2)) : decodeN n b0 b1 b2 b3 = (65533, 1) := by
  unfold lo3 hi3 at h
  split at h <;> split at h <;> (unfold decodeN; repeat' split) <;> first | (exfalso; omega) | (apply Prod.ext <;> simp only <;> omega)
set_option maxRecDepth 100000 in
set_option maxHeartbeats 4000000 in
theorem hd4 {n b0 b1 b2 b3 : Nat} (hb : 240 ≤ b0 ∧ b0 < 245) (hn : 4 ≤ n) (h1 : lo4 b0 ≤ b1) (h1h : b1 ≤ hi4 b0) (h2 : b2 / 64 = 2) (h3 : b3 / 64 = 2) : decodeN n b0 b1 b2 b3 = (b0 % 8 * 262144 + b1 % 64 * 4096 + b2 % 64 * 64 + b3 % 64, 4) := by
  unfold lo4 at h1
  unfold hi4 at h1h
  split at h1 <;> split at h1h <;> (unfold decodeN; repeat' split) <;> first | (exfalso; omega) | (apply Prod.ext <;> simp only <;> omega)
set_option maxRecDepth 100000 in
set_option maxHeartbeats 4000000 in
theorem hd4x {n b0 b1 b2 b3 : Nat} (h3 : b1 < 256) (hb : 240 ≤ b0 ∧ b0 < 245) (h : ¬ (4 ≤ n ∧ lo4 b0 ≤ b1 ∧ b1 ≤ hi4 b0 ∧ b2 / 64 = 2 ∧ b3 / 64 = 2)) : decodeN n b0 b1 b2 b3 = (65533, 1) := by
  unfold lo4 hi4 at h
  split at h <;> split at h <;> (unfold decodeN; repeat' split) <;> first | (exfalso; omega) | (apply Prod.ext <;> simp only <;> omega)
end Hd
theorem wraps_u32 (n : Int) (h₀ : 0 ≤ n) (h₁ : n < 2 ^ 32) : IntKind.u32.wrap n = n := by rw [IntKind.wrap_u32]; omega
theorem u32_and31 (b : Nat) (h : b < 256) : bits .and .u32 (b : Int) 31 = (b : Int) % 32 := bits_mask .u32 8 (by decide) (fun n h0 h1 => wraps_u32 n h0 (by omega)) 5 (by decide) b (by omega) (by omega)
theorem u32_and15 (b : Nat) (h : b < 256) : bits .and .u32 (b : Int) 15 = (b : Int) % 16 := bits_mask .u32 8 (by decide) (fun n h0 h1 => wraps_u32 n h0 (by omega)) 4 (by decide) b (by omega) (by omega)
theorem u32_and7 (b : Nat) (h : b < 256) : bits .and .u32 (b : Int) 7 = (b : Int) % 8 := bits_mask .u32 8 (by decide) (fun n h0 h1 => wraps_u32 n h0 (by omega)) 3 (by decide) b (by omega) (by omega)
theorem u32_and1023 (b : Int) (h0 : 0 ≤ b) (h : b < 4294967296) : bits .and .u32 b 1023 = b % 1024 := bits_mask .u32 32 (by decide) (fun n h0 h1 => wraps_u32 n h0 (by omega)) 10 (by decide) b (by omega) (by omega)
theorem u8_and63n (b : Nat) (h : b < 256) : bits .and .u8 (b : Int) 63 = (b : Int) % 64 := u8_and63 (x := (b : Int)) (by omega) (by omega)
theorem u32_or6 {x y : Int} (hx₀ : 0 ≤ x) (hx : x % 64 = 0) (hx₁ : x < 4294967296) (h₀ : 0 ≤ y) (h₁ : y < 64) : bits .or .u32 x y = x + y := bits_join .u32 32 (by decide) (fun n h0 h1 => wraps_u32 n h0 (by omega)) 6 x y hx₀ hx (by omega) h₀ (by omega) (by omega)
theorem u32_or12 {x y : Int} (hx₀ : 0 ≤ x) (hx : x % 4096 = 0) (hx₁ : x < 4294967296) (h₀ : 0 ≤ y) (h₁ : y < 4096) : bits .or .u32 x y = x + y := bits_join .u32 32 (by decide) (fun n h0 h1 => wraps_u32 n h0 (by omega)) 12 x y hx₀ hx (by omega) h₀ (by omega) (by omega)
theorem u32_or18 {x y : Int} (hx₀ : 0 ≤ x) (hx : x % 262144 = 0) (hx₁ : x < 4294967296) (h₀ : 0 ≤ y) (h₁ : y < 262144) : bits .or .u32 x y = x + y := bits_join .u32 32 (by decide) (fun n h0 h1 => wraps_u32 n h0 (by omega)) 18 x y hx₀ hx (by omega) h₀ (by omega) (by omega)
theorem strAt {P : Program} (t : TypeId) (s : ByteArray) (q : Int) (i : Nat) (hq : q = (i : Int)) (h : i < s.size) (ht : P.underlying t = some .string) (w : World) : (Instr.index t (.string s) (.int .i64 q)).run P w = .ok (.int .u8 ((s.get! i).toNat : Int)) w := by
  subst hq
  rw [run_index_string w t s .i64 (i : Int) ht, dif_pos ⟨by omega, by omega⟩]
  have h2 : s.get! i = s[i]'h := by
    cases s with
    | mk d => exact getElem!_pos d i h
  rw [h2]
  rfl
def zzU16xPost (nm : ByteArray) (w0 : World) (X : Nat → Obj → Prop) (e : Ending) (w' : World) : Prop :=
  ∃ ub : Nat, ∃ cz : Nat, e = .returned (.slice (some ⟨ub, 0, none⟩) (u16L nm).length ((u16L nm).length + cz)) ∧ Own w0 w' [row (ub) 51 (full u16Z (u16L nm) cz)] X
set_option maxHeartbeats 60000000 in
set_option maxRecDepth 1000000 in
theorem zzU16x (nm : ByteArray) (w0 w : World) (X : Nat → Obj → Prop) (hO : Own w0 w [] X) (hlen : nm.size ≤ 65536) :
    Calls Tryd.prog 35 #[.string nm] w (zzU16xPost nm w0 X) := by
  obtain ⟨i0, hi, hz0, hz1, hz2⟩ := info_parts infoU16x
  obtain ⟨W0, hW0⟩ : ∃ W0, W0 = w.alloc (.cells (full u16Z [] nm.size) 51) := ⟨_, rfl⟩
  have hmk := makeU16c nm.size (by omega) w
  rw [← hW0] at hmk
  have hO0 : Own w0 W0 [row w.heap.size 51 (full u16Z [] nm.size)] X := hW0 ▸ hO.alloc _
  clear hW0
  have hlen9 : (nm.size : Int) ≤ 65536 := by omega
  go_enter Tryd.func35, Tryd.ntmps35
  go_wp2
  go_loopg [3, 4] nm.size (fun gf s3 s4 wx => ∃ (pos : Nat) (acc : List Value) (ub c : Nat), s3 = .slice (some ⟨ub, 0, none⟩) acc.length (acc.length + c) ∧ s4 = .int .i64 (pos : Int) ∧ Own w0 wx [row ub 51 (full u16Z acc c)] X ∧ nm.size ≤ pos + gf ∧ pos ≤ nm.size ∧ acc.length ≤ 2 * pos ∧ acc ++ u16f gf nm pos = u16L nm)
  case atStart => exact ⟨0, [], w.heap.size, nm.size, by simp, rfl, hO0, by omega, Nat.zero_le _, Nat.zero_le _, rfl⟩
  case round =>
    obtain ⟨pos, acc, ub, c, rfl, rfl, hR, hfu, hps, hal, hsum⟩ := hrel
    by_cases hlt : pos < nm.size
    · obtain ⟨g', rfl⟩ : ∃ g', gk = g' + 1 := ⟨gk - 1, by omega⟩
      have hdc := Lib.decode_at nm pos
      obtain ⟨b0, hb0⟩ : ∃ b, b = (nm.get! pos).toNat := ⟨_, rfl⟩
      obtain ⟨b1, hb1⟩ : ∃ b, b = (nm.get! (pos + 1)).toNat := ⟨_, rfl⟩
      obtain ⟨b2, hb2⟩ : ∃ b, b = (nm.get! (pos + 2)).toNat := ⟨_, rfl⟩
      obtain ⟨b3, hb3⟩ : ∃ b, b = (nm.get! (pos + 3)).toNat := ⟨_, rfl⟩
      have l0 : b0 < 256 := by rw [hb0]; exact (nm.get! pos).toNat_lt
      have l1 : b1 < 256 := by rw [hb1]; exact (nm.get! (pos + 1)).toNat_lt
      have l2 : b2 < 256 := by rw [hb2]; exact (nm.get! (pos + 2)).toNat_lt
      have l3 : b3 < 256 := by rw [hb3]; exact (nm.get! (pos + 3)).toNat_lt
      have x0 := fun w => strAt (P := Tryd.prog) 9 nm (pos : Int) pos rfl hlt rfl w
      rw [← hb0, ← hb1, ← hb2, ← hb3] at hdc
      simp only [← hb0] at x0
      have hlt9 : (pos : Int) < (nm.size : Int) := by omega
      have hp8 : (0 : Int) ≤ (pos : Int) := by omega
      obtain ⟨n9, hn9⟩ : ∃ n9, n9 = nm.size - pos := ⟨_, rfl⟩
      have hnn : (nm.size : Int) - (pos : Int) = (n9 : Int) := by omega
      rw [← hn9] at hdc
      have x1 : 2 ≤ n9 → ∀ w, _ := fun h w => strAt (P := Tryd.prog) 9 nm ((pos : Int) + 1) (pos + 1) (by omega) (by omega) rfl w
      have x2 : 3 ≤ n9 → ∀ w, _ := fun h w => strAt (P := Tryd.prog) 9 nm ((pos : Int) + 2) (pos + 2) (by omega) (by omega) rfl w
      have x3 : 4 ≤ n9 → ∀ w, _ := fun h w => strAt (P := Tryd.prog) 9 nm ((pos : Int) + 3) (pos + 3) (by omega) (by omega) rfl w
      rw [← hb1] at x1
      rw [← hb2] at x2
      rw [← hb3] at x3
      have hp9 : (pos : Int) ≤ 65536 := by omega
      clear hb0 hb1 hb2 hb3
      have HR := Lib.hid hR
      clear hR
      have hn1 : 1 ≤ n9 := by omega
      have hnp : pos + n9 = nm.size := by omega
      clear hn9
      go_upto_if 29 with (fail)
      go_cut [5, 7, 8] from 22 to 200 (fun s5 s7 s8 w9 => ∃ R K : Nat, s7 = .int .u32 (R : Int) ∧ s8 = .int .i64 (K : Int) ∧ Utf8.decode nm pos = (R, K) ∧ Own w0 w9 [row ub 51 (full u16Z acc c)] X)
      case rest =>
        obtain ⟨R, K, rfl, rfl, hdR, hR2⟩ := hcut
        have hwd := Lib.width_pos nm pos
        have hwn : pos + (Utf8.decode nm pos).2 ≤ nm.size := by
          have := Lib.decodeN_le_n' (nm.size - pos) (nm.get! pos).toNat (nm.get! (pos + 1)).toNat (nm.get! (pos + 2)).toNat (nm.get! (pos + 3)).toNat (by omega)
          rw [← Lib.decode_at] at this
          omega
        have hrl := Lib.rune_le nm pos
        rw [hdR] at hwd hwn hrl
        replace hwd : 1 ≤ K := hwd
        replace hwn : pos + K ≤ nm.size := hwn
        replace hrl : R ≤ 1114111 := hrl
        clear x0 x1 x2 x3 hdc l0 l1 l2 l3 HR
        have hwi : (pos : Int) + (K : Int) ≤ 65536 := by omega
        by_cases h16 : (R : Int) ≤ 65535
        · go_wp2_with (first | (at_builtin; go_must (refine Own.wpList_append_full rfl (.tmp 179) (.tmp 182) 38 rfl 51 i0 (.int .u16 0) 1 2 Tryd.underlying38 hi hz0 hz1 hz2 rfl (by decide) ((hR2.alloc (.cells #[_] 51)).pick [1, 0] (by decide)) rfl rfl (Nat.mul_one _).symm rfl rfl (oneAll rfl) (by unfold maxLen; omega) (by omega) ?_; intro g9 c9 w9 hQ)) | fail)
          go_roundg g'
          case measure => omega
          case rel =>
            have hA := hR2.alloc (.cells #[Value.int .u16 (R : Int)] 51)
            exact ⟨pos + K, acc ++ [Value.int .u16 (R : Int)], g9, c9, by rw [List.length_append]; rfl, by first | rfl | simp, (hQ.back hA.apart hA.apartX [] (by decide) (by decide)).sub [0] (by decide), by omega, by omega, by rw [List.length_append, List.length_singleton]; omega, u16_next hsum hlt hdR (unitsOf_lo (by omega)).symm⟩
        · obtain ⟨q, rfl⟩ : ∃ q, R = q + 65536 := ⟨R - 65536, by omega⟩
          have hq8 : (0 : Int) ≤ (q : Int) := by omega
          have hq9 : (q : Int) ≤ 1048575 := by omega
          have hq7 : ((q + 65536 : Nat) : Int) = (q : Int) + 65536 := by omega
          have k1 := u32_and1023 ((q : Int) / 1024) (by omega) (by omega)
          have k2 := u32_and1023 (q : Int) (by omega) (by omega)
          clear hrl
          rw [hq7] at h16 ⊢
          clear hq7
          go_wp2_with (first | (at_builtin; (refine Own.wpList_append_full rfl (.tmp 186) (.tmp 192) 38 rfl 51 i0 (.int .u16 0) 1 2 Tryd.underlying38 hi hz0 hz1 hz2 rfl (by decide) ((hR2.alloc (.cells #[_] 51)).pick [1, 0] (by decide)) rfl rfl (Nat.mul_one _).symm rfl rfl (oneAll rfl) (by unfold maxLen; omega) (by omega) ?_; intro g8 c8 w8 hP)) | (at_builtin; go_must (refine Own.wpList_append_full rfl (.tmp 194) (.tmp 199) 38 rfl 51 i0 (.int .u16 0) 1 2 Tryd.underlying38 hi hz0 hz1 hz2 rfl (by decide) ((((hP.back (hR2.alloc (.cells #[Value.int .u16 (55296 + (q : Int) / 1024 % 1024)] 51)).apart (hR2.alloc (.cells #[Value.int .u16 (55296 + (q : Int) / 1024 % 1024)] 51)).apartX [] (by decide) (by decide)).sub [0] (by decide)).alloc (.cells #[_] 51)).pick [1, 0] (by decide)) rfl rfl (by simp) rfl rfl (oneAll rfl) (by unfold maxLen; omega) (by omega) ?_; intro g9 c9 w9 hQ)) | fail)
          go_roundg g'
          case measure => omega
          case rel =>
            have hB := ((hP.back (hR2.alloc (.cells #[Value.int .u16 (55296 + (q : Int) / 1024 % 1024)] 51)).apart (hR2.alloc (.cells #[Value.int .u16 (55296 + (q : Int) / 1024 % 1024)] 51)).apartX [] (by decide) (by decide)).sub [0] (by decide))
            have hA := hB.alloc (.cells #[Value.int .u16 (56320 + (q : Int) % 1024)] 51)
            exact ⟨pos + K, (acc ++ [Value.int .u16 (55296 + (q : Int) / 1024 % 1024)]) ++ [Value.int .u16 (56320 + (q : Int) % 1024)], g9, c9, by rw [List.length_append, List.length_append]; rfl, by first | rfl | simp, (hQ.back hA.apart hA.apartX [] (by decide) (by decide)).sub [0] (by decide), by omega, by omega, by simp <;> omega, by rw [List.append_assoc acc]; exact u16_next (news := [Value.int .u16 (55296 + (q : Int) / 1024 % 1024)] ++ [Value.int .u16 (56320 + (q : Int) % 1024)]) hsum hlt hdR (by rw [unitsOf_hi (by omega), show q + 65536 - 65536 = q by omega]; first | rfl | simp)⟩
      case first =>
        by_cases h1 : b0 < 128
        · have h1i : (b0 : Int) < 128 := by omega
          as_aux_lemma =>
            rw [Hd.hdA h1] at hdc
            go_wp2_with (first | (go_at_call 48; go_in) | fail)
            go_meet
            case rel => refine ⟨_, _, ?_, ?_, hdc, HR.out⟩ <;> first | rfl | exact congrArg (Value.int .u32) (by omega)
        · have h1i : ¬ (b0 : Int) < 128 := by omega
          by_cases hC : 194 ≤ b0 ∧ b0 < 224
          · have hC1 : (194 : Int) ≤ (b0 : Int) := by omega
            have hC2 : (b0 : Int) ≤ 223 := by omega
            by_cases hn2 : 2 ≤ n9
            · have hn2i : (2 : Int) ≤ (n9 : Int) := by omega
              replace x1 := x1 hn2
              have e1 := u32_and31 b0 l0
              have e2 := u8_and63n b1 l1
              have e3 : bits .or .u32 ((b0 : Int) % 32 * 64) ((b1 : Int) % 64) = (b0 : Int) % 32 * 64 + (b1 : Int) % 64 := u32_or6 (by omega) (by omega) (by omega) (by omega) (by omega)
              by_cases hc : b1 / 64 = 2
              · have c1 : (128 : Int) ≤ (b1 : Int) := by omega
                have c2 : (b1 : Int) ≤ 191 := by omega
                as_aux_lemma =>
                  rw [Hd.hd2 hC hn2 hc] at hdc
                  go_wp2_with (first | (go_at_call 48; go_in) | fail)
                  go_meet
                  case rel => refine ⟨_, _, ?_, ?_, hdc, HR.out⟩ <;> first | rfl | exact congrArg (Value.int .u32) (by omega)
              · by_cases hc3 : 128 ≤ b1
                · have c1 : (128 : Int) ≤ (b1 : Int) := by omega
                  have c2 : ¬ (b1 : Int) ≤ 191 := by omega
                  as_aux_lemma =>
                    rw [Hd.hd2x hC (by omega)] at hdc
                    go_wp2_with (first | (go_at_call 48; go_in) | fail)
                    go_meet
                    case rel => refine ⟨_, _, ?_, ?_, hdc, HR.out⟩ <;> first | rfl | exact congrArg (Value.int .u32) (by omega)
                · have c1 : ¬ (128 : Int) ≤ (b1 : Int) := by omega
                  as_aux_lemma =>
                    rw [Hd.hd2x hC (by omega)] at hdc
                    go_wp2_with (first | (go_at_call 48; go_in) | fail)
                    go_meet
                    case rel => refine ⟨_, _, ?_, ?_, hdc, HR.out⟩ <;> first | rfl | exact congrArg (Value.int .u32) (by omega)
            · have hn2i : ¬ (2 : Int) ≤ (n9 : Int) := by omega
              as_aux_lemma =>
                rw [Hd.hd2x hC (by omega)] at hdc
                go_wp2_with (first | (go_at_call 48; go_in) | fail)
                go_meet
                case rel => refine ⟨_, _, ?_, ?_, hdc, HR.out⟩ <;> first | rfl | exact congrArg (Value.int .u32) (by omega)
          · by_cases hC : 224 ≤ b0 ∧ b0 < 240
            · have hC0 : ¬ (b0 : Int) ≤ 223 := by omega
              have hC1 : (224 : Int) ≤ (b0 : Int) := by omega
              have hC2 : (b0 : Int) ≤ 239 := by omega
              by_cases q1 : b0 = 224
              · have q1i : ((b0 : Int) == 224) = true := by rw [q1]; rfl
                have q2i : ((b0 : Int) == 237) = false := by rw [q1]; rfl
                by_cases hn2 : 3 ≤ n9
                · have hn2i : (3 : Int) ≤ (n9 : Int) := by omega
                  replace x1 := x1 (by omega)
                  replace x2 := x2 (by omega)
                  by_cases hlo : 160 ≤ b1
                  · have hlo9 : (160 : Int) ≤ (b1 : Int) := by omega
                    by_cases hhi : b1 ≤ 191
                    · have hhi9 : (b1 : Int) ≤ 191 := by omega
                      by_cases hc2 : b2 / 64 = 2
                      · have c21 : (128 : Int) ≤ (b2 : Int) := by omega
                        have c22 : (b2 : Int) ≤ 191 := by omega
                        as_aux_lemma =>
                          rw [Hd.hd3 hC hn2 (by unfold Hd.lo3; split <;> omega) (by unfold Hd.hi3; split <;> omega) hc2] at hdc
                          go_wp2_with (first | (go_at_call 48; go_in) | fail)
                          have hw_1 : IntKind.i64.wrap ((pos : Int) + 1) = (pos : Int) + 1 := by rw [IntKind.wrap_i64]; omega
                          have hw_2 : IntKind.i64.wrap ((pos : Int) + 2) = (pos : Int) + 2 := by rw [IntKind.wrap_i64]; omega
                          have hv_1 : IntKind.u32.wrap (0) = 0 := by rw [IntKind.wrap_u32]; omega
                          have hv_2 : IntKind.u32.wrap ((b1 : Int) % 64) = (b1 : Int) % 64 := by rw [IntKind.wrap_u32]; omega
                          have hv_3 : IntKind.u32.wrap ((b1 : Int) % 64 * 64) = (b1 : Int) % 64 * 64 := by rw [IntKind.wrap_u32]; omega
                          have hv_4 : IntKind.u32.wrap ((b2 : Int) % 64) = (b2 : Int) % 64 := by rw [IntKind.wrap_u32]; omega
                          have e1 : bits .and .u32 224 15 = 0 := by decide
                          have e2 := u8_and63n b1 l1
                          have e4 := u8_and63n b2 l2
                          have e3 : bits .or .u32 (0) ((b1 : Int) % 64 * 64) = (b1 : Int) % 64 * 64 := (u32_or12 (by omega) (by omega) (by omega) (by omega) (by omega)).trans (Int.zero_add _)
                          have e5 : bits .or .u32 ((b1 : Int) % 64 * 64) ((b2 : Int) % 64) = (b1 : Int) % 64 * 64 + (b2 : Int) % 64 := u32_or6 (by omega) (by omega) (by omega) (by omega) (by omega)
                          refine wp_region_quiet_below (by kernel_rfl) (by kernel_rfl) ?_
                          repeat (quiet_step (fail))
                          refine wpQuiet_nil ?_
                          intro _ hw'
                          obtain ⟨⟨dq, osq⟩, hw9⟩ := hw'
                          subst hw9
                          have hR := HR.out.step (below_regrown wr dq osq)
                          clear HR
                          generalize grow (redrawn wr dq) osq = V at hR ⊢
                          have HR := Lib.hid hR
                          clear hR
                          try simp only [hv_1, e3, e5, Int.zero_mul, Int.zero_emod, Int.reduceMul, Int.reduceMod, Int.reduceAdd]
                          go_wp2_with (first | (go_at_call 48; go_in) | fail)
                          go_meet
                          case rel => refine ⟨_, _, ?_, ?_, hdc, HR.out⟩ <;> first | rfl | exact congrArg (Value.int .u32) (by omega)
                      · by_cases hc2n : 128 ≤ b2
                        · have c21 : (128 : Int) ≤ (b2 : Int) := by omega
                          have c22 : ¬ (b2 : Int) ≤ 191 := by omega
                          as_aux_lemma =>
                            rw [Hd.hd3x l1 hC (by unfold Hd.lo3 Hd.hi3; (repeat' split) <;> omega)] at hdc
                            go_wp2_with (first | (go_at_call 48; go_in) | fail)
                            go_meet
                            case rel => refine ⟨_, _, ?_, ?_, hdc, HR.out⟩ <;> first | rfl | exact congrArg (Value.int .u32) (by omega)
                        · have c21 : ¬ (128 : Int) ≤ (b2 : Int) := by omega
                          as_aux_lemma =>
                            rw [Hd.hd3x l1 hC (by unfold Hd.lo3 Hd.hi3; (repeat' split) <;> omega)] at hdc
                            go_wp2_with (first | (go_at_call 48; go_in) | fail)
                            go_meet
                            case rel => refine ⟨_, _, ?_, ?_, hdc, HR.out⟩ <;> first | rfl | exact congrArg (Value.int .u32) (by omega)
                    · have hhi9 : ¬ (b1 : Int) ≤ 191 := by omega
                      as_aux_lemma =>
                        rw [Hd.hd3x l1 hC (by unfold Hd.lo3 Hd.hi3; (repeat' split) <;> omega)] at hdc
                        go_wp2_with (first | (go_at_call 48; go_in) | fail)
                        go_meet
                        case rel => refine ⟨_, _, ?_, ?_, hdc, HR.out⟩ <;> first | rfl | exact congrArg (Value.int .u32) (by omega)
                  · have hlo9 : ¬ (160 : Int) ≤ (b1 : Int) := by omega
                    as_aux_lemma =>
                      rw [Hd.hd3x l1 hC (by unfold Hd.lo3 Hd.hi3; (repeat' split) <;> omega)] at hdc
                      go_wp2_with (first | (go_at_call 48; go_in) | fail)
                      go_meet
                      case rel => refine ⟨_, _, ?_, ?_, hdc, HR.out⟩ <;> first | rfl | exact congrArg (Value.int .u32) (by omega)
                · have hn2i : ¬ (3 : Int) ≤ (n9 : Int) := by omega
                  as_aux_lemma =>
                    rw [Hd.hd3x l1 hC (by unfold Hd.lo3 Hd.hi3; (repeat' split) <;> omega)] at hdc
                    go_wp2_with (first | (go_at_call 48; go_in) | fail)
                    go_meet
                    case rel => refine ⟨_, _, ?_, ?_, hdc, HR.out⟩ <;> first | rfl | exact congrArg (Value.int .u32) (by omega)
              · have q1i : ((b0 : Int) == 224) = false := by rw [beq_eq_false_iff_ne]; omega
                by_cases q2 : b0 = 237
                · have q2i : ((b0 : Int) == 237) = true := by rw [q2]; rfl
                  by_cases hn2 : 3 ≤ n9
                  · have hn2i : (3 : Int) ≤ (n9 : Int) := by omega
                    replace x1 := x1 (by omega)
                    replace x2 := x2 (by omega)
                    by_cases hlo : 128 ≤ b1
                    · have hlo9 : (128 : Int) ≤ (b1 : Int) := by omega
                      by_cases hhi : b1 ≤ 159
                      · have hhi9 : (b1 : Int) ≤ 159 := by omega
                        by_cases hc2 : b2 / 64 = 2
                        · have c21 : (128 : Int) ≤ (b2 : Int) := by omega
                          have c22 : (b2 : Int) ≤ 191 := by omega
                          as_aux_lemma =>
                            rw [Hd.hd3 hC hn2 (by unfold Hd.lo3; split <;> omega) (by unfold Hd.hi3; split <;> omega) hc2] at hdc
                            go_wp2_with (first | (go_at_call 48; go_in) | fail)
                            have hw_1 : IntKind.i64.wrap ((pos : Int) + 1) = (pos : Int) + 1 := by rw [IntKind.wrap_i64]; omega
                            have hw_2 : IntKind.i64.wrap ((pos : Int) + 2) = (pos : Int) + 2 := by rw [IntKind.wrap_i64]; omega
                            have hv_1 : IntKind.u32.wrap (53248) = 53248 := by rw [IntKind.wrap_u32]; omega
                            have hv_2 : IntKind.u32.wrap ((b1 : Int) % 64) = (b1 : Int) % 64 := by rw [IntKind.wrap_u32]; omega
                            have hv_3 : IntKind.u32.wrap ((b1 : Int) % 64 * 64) = (b1 : Int) % 64 * 64 := by rw [IntKind.wrap_u32]; omega
                            have hv_4 : IntKind.u32.wrap ((b2 : Int) % 64) = (b2 : Int) % 64 := by rw [IntKind.wrap_u32]; omega
                            have e1 : bits .and .u32 237 15 = 13 := by decide
                            have e2 := u8_and63n b1 l1
                            have e4 := u8_and63n b2 l2
                            have e3 : bits .or .u32 (53248) ((b1 : Int) % 64 * 64) = 53248 + (b1 : Int) % 64 * 64 := u32_or12 (by omega) (by omega) (by omega) (by omega) (by omega)
                            have e5 : bits .or .u32 (53248 + (b1 : Int) % 64 * 64) ((b2 : Int) % 64) = 53248 + (b1 : Int) % 64 * 64 + (b2 : Int) % 64 := u32_or6 (by omega) (by omega) (by omega) (by omega) (by omega)
                            refine wp_region_quiet_below (by kernel_rfl) (by kernel_rfl) ?_
                            repeat (quiet_step (fail))
                            refine wpQuiet_nil ?_
                            intro _ hw'
                            obtain ⟨⟨dq, osq⟩, hw9⟩ := hw'
                            subst hw9
                            have hR := HR.out.step (below_regrown wr dq osq)
                            clear HR
                            generalize grow (redrawn wr dq) osq = V at hR ⊢
                            have HR := Lib.hid hR
                            clear hR
                            try simp only [hv_1, e3, e5, Int.zero_mul, Int.zero_emod, Int.reduceMul, Int.reduceMod, Int.reduceAdd]
                            go_wp2_with (first | (go_at_call 48; go_in) | fail)
                            go_meet
                            case rel => refine ⟨_, _, ?_, ?_, hdc, HR.out⟩ <;> first | rfl | exact congrArg (Value.int .u32) (by omega)
                        · by_cases hc2n : 128 ≤ b2
                          · have c21 : (128 : Int) ≤ (b2 : Int) := by omega
                            have c22 : ¬ (b2 : Int) ≤ 191 := by omega
                            as_aux_lemma =>
                              rw [Hd.hd3x l1 hC (by unfold Hd.lo3 Hd.hi3; (repeat' split) <;> omega)] at hdc
                              go_wp2_with (first | (go_at_call 48; go_in) | fail)
                              go_meet
                              case rel => refine ⟨_, _, ?_, ?_, hdc, HR.out⟩ <;> first | rfl | exact congrArg (Value.int .u32) (by omega)
                          · have c21 : ¬ (128 : Int) ≤ (b2 : Int) := by omega
                            as_aux_lemma =>
                              rw [Hd.hd3x l1 hC (by unfold Hd.lo3 Hd.hi3; (repeat' split) <;> omega)] at hdc
                              go_wp2_with (first | (go_at_call 48; go_in) | fail)
                              go_meet
                              case rel => refine ⟨_, _, ?_, ?_, hdc, HR.out⟩ <;> first | rfl | exact congrArg (Value.int .u32) (by omega)
                      · have hhi9 : ¬ (b1 : Int) ≤ 159 := by omega
                        as_aux_lemma =>
                          rw [Hd.hd3x l1 hC (by unfold Hd.lo3 Hd.hi3; (repeat' split) <;> omega)] at hdc
                          go_wp2_with (first | (go_at_call 48; go_in) | fail)
                          go_meet
                          case rel => refine ⟨_, _, ?_, ?_, hdc, HR.out⟩ <;> first | rfl | exact congrArg (Value.int .u32) (by omega)
                    · have hlo9 : ¬ (128 : Int) ≤ (b1 : Int) := by omega
                      as_aux_lemma =>
                        rw [Hd.hd3x l1 hC (by unfold Hd.lo3 Hd.hi3; (repeat' split) <;> omega)] at hdc
                        go_wp2_with (first | (go_at_call 48; go_in) | fail)
                        go_meet
                        case rel => refine ⟨_, _, ?_, ?_, hdc, HR.out⟩ <;> first | rfl | exact congrArg (Value.int .u32) (by omega)
                  · have hn2i : ¬ (3 : Int) ≤ (n9 : Int) := by omega
                    as_aux_lemma =>
                      rw [Hd.hd3x l1 hC (by unfold Hd.lo3 Hd.hi3; (repeat' split) <;> omega)] at hdc
                      go_wp2_with (first | (go_at_call 48; go_in) | fail)
                      go_meet
                      case rel => refine ⟨_, _, ?_, ?_, hdc, HR.out⟩ <;> first | rfl | exact congrArg (Value.int .u32) (by omega)
                · have q2i : ((b0 : Int) == 237) = false := by rw [beq_eq_false_iff_ne]; omega
                  by_cases hn2 : 3 ≤ n9
                  · have hn2i : (3 : Int) ≤ (n9 : Int) := by omega
                    replace x1 := x1 (by omega)
                    replace x2 := x2 (by omega)
                    by_cases hlo : 128 ≤ b1
                    · have hlo9 : (128 : Int) ≤ (b1 : Int) := by omega
                      by_cases hhi : b1 ≤ 191
                      · have hhi9 : (b1 : Int) ≤ 191 := by omega
                        by_cases hc2 : b2 / 64 = 2
                        · have c21 : (128 : Int) ≤ (b2 : Int) := by omega
                          have c22 : (b2 : Int) ≤ 191 := by omega
                          as_aux_lemma =>
                            rw [Hd.hd3 hC hn2 (by unfold Hd.lo3; split <;> omega) (by unfold Hd.hi3; split <;> omega) hc2] at hdc
                            go_wp2_with (first | (go_at_call 48; go_in) | fail)
                            have hw_1 : IntKind.i64.wrap ((pos : Int) + 1) = (pos : Int) + 1 := by rw [IntKind.wrap_i64]; omega
                            have hw_2 : IntKind.i64.wrap ((pos : Int) + 2) = (pos : Int) + 2 := by rw [IntKind.wrap_i64]; omega
                            have hv_1 : IntKind.u32.wrap ((b0 : Int) % 16 * 4096) = (b0 : Int) % 16 * 4096 := by rw [IntKind.wrap_u32]; omega
                            have hv_2 : IntKind.u32.wrap ((b1 : Int) % 64) = (b1 : Int) % 64 := by rw [IntKind.wrap_u32]; omega
                            have hv_3 : IntKind.u32.wrap ((b1 : Int) % 64 * 64) = (b1 : Int) % 64 * 64 := by rw [IntKind.wrap_u32]; omega
                            have hv_4 : IntKind.u32.wrap ((b2 : Int) % 64) = (b2 : Int) % 64 := by rw [IntKind.wrap_u32]; omega
                            have e1 := u32_and15 b0 l0
                            have e2 := u8_and63n b1 l1
                            have e4 := u8_and63n b2 l2
                            have e3 : bits .or .u32 ((b0 : Int) % 16 * 4096) ((b1 : Int) % 64 * 64) = (b0 : Int) % 16 * 4096 + (b1 : Int) % 64 * 64 := u32_or12 (by omega) (by omega) (by omega) (by omega) (by omega)
                            have e5 : bits .or .u32 ((b0 : Int) % 16 * 4096 + (b1 : Int) % 64 * 64) ((b2 : Int) % 64) = (b0 : Int) % 16 * 4096 + (b1 : Int) % 64 * 64 + (b2 : Int) % 64 := u32_or6 (by omega) (by omega) (by omega) (by omega) (by omega)
                            refine wp_region_quiet_below (by kernel_rfl) (by kernel_rfl) ?_
                            repeat (quiet_step (fail))
                            refine wpQuiet_nil ?_
                            intro _ hw'
                            obtain ⟨⟨dq, osq⟩, hw9⟩ := hw'
                            subst hw9
                            have hR := HR.out.step (below_regrown wr dq osq)
                            clear HR
                            generalize grow (redrawn wr dq) osq = V at hR ⊢
                            have HR := Lib.hid hR
                            clear hR
                            try simp only [hv_1, e3, e5, Int.zero_mul, Int.zero_emod, Int.reduceMul, Int.reduceMod, Int.reduceAdd]
                            go_wp2_with (first | (go_at_call 48; go_in) | fail)
                            go_meet
                            case rel => refine ⟨_, _, ?_, ?_, hdc, HR.out⟩ <;> first | rfl | exact congrArg (Value.int .u32) (by omega)
                        · by_cases hc2n : 128 ≤ b2
                          · have c21 : (128 : Int) ≤ (b2 : Int) := by omega
                            have c22 : ¬ (b2 : Int) ≤ 191 := by omega
                            as_aux_lemma =>
                              rw [Hd.hd3x l1 hC (by unfold Hd.lo3 Hd.hi3; (repeat' split) <;> omega)] at hdc
                              go_wp2_with (first | (go_at_call 48; go_in) | fail)
                              go_meet
                              case rel => refine ⟨_, _, ?_, ?_, hdc, HR.out⟩ <;> first | rfl | exact congrArg (Value.int .u32) (by omega)
                          · have c21 : ¬ (128 : Int) ≤ (b2 : Int) := by omega
                            as_aux_lemma =>
                              rw [Hd.hd3x l1 hC (by unfold Hd.lo3 Hd.hi3; (repeat' split) <;> omega)] at hdc
                              go_wp2_with (first | (go_at_call 48; go_in) | fail)
                              go_meet
                              case rel => refine ⟨_, _, ?_, ?_, hdc, HR.out⟩ <;> first | rfl | exact congrArg (Value.int .u32) (by omega)
                      · have hhi9 : ¬ (b1 : Int) ≤ 191 := by omega
                        as_aux_lemma =>
                          rw [Hd.hd3x l1 hC (by unfold Hd.lo3 Hd.hi3; (repeat' split) <;> omega)] at hdc
                          go_wp2_with (first | (go_at_call 48; go_in) | fail)
                          go_meet
                          case rel => refine ⟨_, _, ?_, ?_, hdc, HR.out⟩ <;> first | rfl | exact congrArg (Value.int .u32) (by omega)
                    · have hlo9 : ¬ (128 : Int) ≤ (b1 : Int) := by omega
                      as_aux_lemma =>
                        rw [Hd.hd3x l1 hC (by unfold Hd.lo3 Hd.hi3; (repeat' split) <;> omega)] at hdc
                        go_wp2_with (first | (go_at_call 48; go_in) | fail)
                        go_meet
                        case rel => refine ⟨_, _, ?_, ?_, hdc, HR.out⟩ <;> first | rfl | exact congrArg (Value.int .u32) (by omega)
                  · have hn2i : ¬ (3 : Int) ≤ (n9 : Int) := by omega
                    as_aux_lemma =>
                      rw [Hd.hd3x l1 hC (by unfold Hd.lo3 Hd.hi3; (repeat' split) <;> omega)] at hdc
                      go_wp2_with (first | (go_at_call 48; go_in) | fail)
                      go_meet
                      case rel => refine ⟨_, _, ?_, ?_, hdc, HR.out⟩ <;> first | rfl | exact congrArg (Value.int .u32) (by omega)
            · by_cases hC : 240 ≤ b0 ∧ b0 < 245
              · have hC0 : ¬ (b0 : Int) ≤ 239 := by omega
                have hC00 : ¬ (b0 : Int) ≤ 223 := by omega
                have hC1 : (240 : Int) ≤ (b0 : Int) := by omega
                have hC2 : (b0 : Int) ≤ 244 := by omega
                by_cases q1 : b0 = 240
                · have q1i : ((b0 : Int) == 240) = true := by rw [q1]; rfl
                  have q2i : ((b0 : Int) == 244) = false := by rw [q1]; rfl
                  by_cases hn2 : 4 ≤ n9
                  · have hn2i : (4 : Int) ≤ (n9 : Int) := by omega
                    replace x1 := x1 (by omega)
                    replace x2 := x2 (by omega)
                    replace x3 := x3 hn2
                    by_cases hlo : 144 ≤ b1
                    · have hlo9 : (144 : Int) ≤ (b1 : Int) := by omega
                      by_cases hhi : b1 ≤ 191
                      · have hhi9 : (b1 : Int) ≤ 191 := by omega
                        by_cases hc2 : b2 / 64 = 2
                        · have c21 : (128 : Int) ≤ (b2 : Int) := by omega
                          have c22 : (b2 : Int) ≤ 191 := by omega
                          by_cases hc3 : b3 / 64 = 2
                          · have c31 : (128 : Int) ≤ (b3 : Int) := by omega
                            have c32 : (b3 : Int) ≤ 191 := by omega
                            as_aux_lemma =>
                              rw [Hd.hd4 hC hn2 (by unfold Hd.lo4; split <;> omega) (by unfold Hd.hi4; split <;> omega) hc2 hc3] at hdc
                              go_wp2_with (first | (go_at_call 48; go_in) | fail)
                              have hw_1 : IntKind.i64.wrap ((pos : Int) + 1) = (pos : Int) + 1 := by rw [IntKind.wrap_i64]; omega
                              have hw_2 : IntKind.i64.wrap ((pos : Int) + 2) = (pos : Int) + 2 := by rw [IntKind.wrap_i64]; omega
                              have hw_3 : IntKind.i64.wrap ((pos : Int) + 3) = (pos : Int) + 3 := by rw [IntKind.wrap_i64]; omega
                              have hv_1 : IntKind.u32.wrap (0) = 0 := by rw [IntKind.wrap_u32]; omega
                              have hv_2 : IntKind.u32.wrap ((b1 : Int) % 64) = (b1 : Int) % 64 := by rw [IntKind.wrap_u32]; omega
                              have hv_3 : IntKind.u32.wrap ((b1 : Int) % 64 * 4096) = (b1 : Int) % 64 * 4096 := by rw [IntKind.wrap_u32]; omega
                              have hv_4 : IntKind.u32.wrap ((b2 : Int) % 64) = (b2 : Int) % 64 := by rw [IntKind.wrap_u32]; omega
                              have hv_5 : IntKind.u32.wrap ((b2 : Int) % 64 * 64) = (b2 : Int) % 64 * 64 := by rw [IntKind.wrap_u32]; omega
                              have hv_6 : IntKind.u32.wrap ((b3 : Int) % 64) = (b3 : Int) % 64 := by rw [IntKind.wrap_u32]; omega
                              have e1 : bits .and .u32 240 7 = 0 := by decide
                              have e2 := u8_and63n b1 l1
                              have e4 := u8_and63n b2 l2
                              have e6 := u8_and63n b3 l3
                              have e3 : bits .or .u32 (0) ((b1 : Int) % 64 * 4096) = (b1 : Int) % 64 * 4096 := (u32_or18 (by omega) (by omega) (by omega) (by omega) (by omega)).trans (Int.zero_add _)
                              have e5 : bits .or .u32 ((b1 : Int) % 64 * 4096) ((b2 : Int) % 64 * 64) = (b1 : Int) % 64 * 4096 + (b2 : Int) % 64 * 64 := u32_or12 (by omega) (by omega) (by omega) (by omega) (by omega)
                              have e7 : bits .or .u32 ((b1 : Int) % 64 * 4096 + (b2 : Int) % 64 * 64) ((b3 : Int) % 64) = (b1 : Int) % 64 * 4096 + (b2 : Int) % 64 * 64 + (b3 : Int) % 64 := u32_or6 (by omega) (by omega) (by omega) (by omega) (by omega)
                              refine wp_region_quiet_below (by kernel_rfl) (by kernel_rfl) ?_
                              repeat (quiet_step (fail))
                              refine wpQuiet_nil ?_
                              intro _ hw'
                              obtain ⟨⟨dq, osq⟩, hw9⟩ := hw'
                              subst hw9
                              have hR := HR.out.step (below_regrown wr dq osq)
                              clear HR
                              generalize grow (redrawn wr dq) osq = V at hR ⊢
                              have HR := Lib.hid hR
                              clear hR
                              try simp only [hv_1, e3, e5, e7, Int.zero_mul, Int.zero_emod, Int.reduceMul, Int.reduceMod, Int.reduceAdd]
                              go_wp2_with (first | (go_at_call 48; go_in) | fail)
                              go_meet
                              case rel => refine ⟨_, _, ?_, ?_, hdc, HR.out⟩ <;> first | rfl | exact congrArg (Value.int .u32) (by omega)
                          · by_cases hc3n : 128 ≤ b3
                            · have c31 : (128 : Int) ≤ (b3 : Int) := by omega
                              have c32 : ¬ (b3 : Int) ≤ 191 := by omega
                              as_aux_lemma =>
                                rw [Hd.hd4x l1 hC (by unfold Hd.lo4 Hd.hi4; (repeat' split) <;> omega)] at hdc
                                go_wp2_with (first | (go_at_call 48; go_in) | fail)
                                go_meet
                                case rel => refine ⟨_, _, ?_, ?_, hdc, HR.out⟩ <;> first | rfl | exact congrArg (Value.int .u32) (by omega)
                            · have c31 : ¬ (128 : Int) ≤ (b3 : Int) := by omega
                              as_aux_lemma =>
                                rw [Hd.hd4x l1 hC (by unfold Hd.lo4 Hd.hi4; (repeat' split) <;> omega)] at hdc
                                go_wp2_with (first | (go_at_call 48; go_in) | fail)
                                go_meet
                                case rel => refine ⟨_, _, ?_, ?_, hdc, HR.out⟩ <;> first | rfl | exact congrArg (Value.int .u32) (by omega)
                        · by_cases hc2n : 128 ≤ b2
                          · have c21 : (128 : Int) ≤ (b2 : Int) := by omega
                            have c22 : ¬ (b2 : Int) ≤ 191 := by omega
                            as_aux_lemma =>
                              rw [Hd.hd4x l1 hC (by unfold Hd.lo4 Hd.hi4; (repeat' split) <;> omega)] at hdc
                              go_wp2_with (first | (go_at_call 48; go_in) | fail)
                              go_meet
                              case rel => refine ⟨_, _, ?_, ?_, hdc, HR.out⟩ <;> first | rfl | exact congrArg (Value.int .u32) (by omega)
                          · have c21 : ¬ (128 : Int) ≤ (b2 : Int) := by omega
                            as_aux_lemma =>
                              rw [Hd.hd4x l1 hC (by unfold Hd.lo4 Hd.hi4; (repeat' split) <;> omega)] at hdc
                              go_wp2_with (first | (go_at_call 48; go_in) | fail)
                              go_meet
                              case rel => refine ⟨_, _, ?_, ?_, hdc, HR.out⟩ <;> first | rfl | exact congrArg (Value.int .u32) (by omega)
                      · have hhi9 : ¬ (b1 : Int) ≤ 191 := by omega
                        as_aux_lemma =>
                          rw [Hd.hd4x l1 hC (by unfold Hd.lo4 Hd.hi4; (repeat' split) <;> omega)] at hdc
                          go_wp2_with (first | (go_at_call 48; go_in) | fail)
                          go_meet
                          case rel => refine ⟨_, _, ?_, ?_, hdc, HR.out⟩ <;> first | rfl | exact congrArg (Value.int .u32) (by omega)
                    · have hlo9 : ¬ (144 : Int) ≤ (b1 : Int) := by omega
                      as_aux_lemma =>
                        rw [Hd.hd4x l1 hC (by unfold Hd.lo4 Hd.hi4; (repeat' split) <;> omega)] at hdc
                        go_wp2_with (first | (go_at_call 48; go_in) | fail)
                        go_meet
                        case rel => refine ⟨_, _, ?_, ?_, hdc, HR.out⟩ <;> first | rfl | exact congrArg (Value.int .u32) (by omega)
                  · have hn2i : ¬ (4 : Int) ≤ (n9 : Int) := by omega
                    as_aux_lemma =>
                      rw [Hd.hd4x l1 hC (by unfold Hd.lo4 Hd.hi4; (repeat' split) <;> omega)] at hdc
                      go_wp2_with (first | (go_at_call 48; go_in) | fail)
                      go_meet
                      case rel => refine ⟨_, _, ?_, ?_, hdc, HR.out⟩ <;> first | rfl | exact congrArg (Value.int .u32) (by omega)
                · have q1i : ((b0 : Int) == 240) = false := by rw [beq_eq_false_iff_ne]; omega
                  by_cases q2 : b0 = 244
                  · have q2i : ((b0 : Int) == 244) = true := by rw [q2]; rfl
                    by_cases hn2 : 4 ≤ n9
                    · have hn2i : (4 : Int) ≤ (n9 : Int) := by omega
                      replace x1 := x1 (by omega)
                      replace x2 := x2 (by omega)
                      replace x3 := x3 hn2
                      by_cases hlo : 128 ≤ b1
                      · have hlo9 : (128 : Int) ≤ (b1 : Int) := by omega
                        by_cases hhi : b1 ≤ 143
                        · have hhi9 : (b1 : Int) ≤ 143 := by omega
                          by_cases hc2 : b2 / 64 = 2
                          · have c21 : (128 : Int) ≤ (b2 : Int) := by omega
                            have c22 : (b2 : Int) ≤ 191 := by omega
                            by_cases hc3 : b3 / 64 = 2
                            · have c31 : (128 : Int) ≤ (b3 : Int) := by omega
                              have c32 : (b3 : Int) ≤ 191 := by omega
                              as_aux_lemma =>
                                rw [Hd.hd4 hC hn2 (by unfold Hd.lo4; split <;> omega) (by unfold Hd.hi4; split <;> omega) hc2 hc3] at hdc
                                go_wp2_with (first | (go_at_call 48; go_in) | fail)
                                have hw_1 : IntKind.i64.wrap ((pos : Int) + 1) = (pos : Int) + 1 := by rw [IntKind.wrap_i64]; omega
                                have hw_2 : IntKind.i64.wrap ((pos : Int) + 2) = (pos : Int) + 2 := by rw [IntKind.wrap_i64]; omega
                                have hw_3 : IntKind.i64.wrap ((pos : Int) + 3) = (pos : Int) + 3 := by rw [IntKind.wrap_i64]; omega
                                have hv_1 : IntKind.u32.wrap (1048576) = 1048576 := by rw [IntKind.wrap_u32]; omega
                                have hv_2 : IntKind.u32.wrap ((b1 : Int) % 64) = (b1 : Int) % 64 := by rw [IntKind.wrap_u32]; omega
                                have hv_3 : IntKind.u32.wrap ((b1 : Int) % 64 * 4096) = (b1 : Int) % 64 * 4096 := by rw [IntKind.wrap_u32]; omega
                                have hv_4 : IntKind.u32.wrap ((b2 : Int) % 64) = (b2 : Int) % 64 := by rw [IntKind.wrap_u32]; omega
                                have hv_5 : IntKind.u32.wrap ((b2 : Int) % 64 * 64) = (b2 : Int) % 64 * 64 := by rw [IntKind.wrap_u32]; omega
                                have hv_6 : IntKind.u32.wrap ((b3 : Int) % 64) = (b3 : Int) % 64 := by rw [IntKind.wrap_u32]; omega
                                have e1 : bits .and .u32 244 7 = 4 := by decide
                                have e2 := u8_and63n b1 l1
                                have e4 := u8_and63n b2 l2
                                have e6 := u8_and63n b3 l3
                                have e3 : bits .or .u32 (1048576) ((b1 : Int) % 64 * 4096) = 1048576 + (b1 : Int) % 64 * 4096 := u32_or18 (by omega) (by omega) (by omega) (by omega) (by omega)
                                have e5 : bits .or .u32 (1048576 + (b1 : Int) % 64 * 4096) ((b2 : Int) % 64 * 64) = 1048576 + (b1 : Int) % 64 * 4096 + (b2 : Int) % 64 * 64 := u32_or12 (by omega) (by omega) (by omega) (by omega) (by omega)
                                have e7 : bits .or .u32 (1048576 + (b1 : Int) % 64 * 4096 + (b2 : Int) % 64 * 64) ((b3 : Int) % 64) = 1048576 + (b1 : Int) % 64 * 4096 + (b2 : Int) % 64 * 64 + (b3 : Int) % 64 := u32_or6 (by omega) (by omega) (by omega) (by omega) (by omega)
                                refine wp_region_quiet_below (by kernel_rfl) (by kernel_rfl) ?_
                                repeat (quiet_step (fail))
                                refine wpQuiet_nil ?_
                                intro _ hw'
                                obtain ⟨⟨dq, osq⟩, hw9⟩ := hw'
                                subst hw9
                                have hR := HR.out.step (below_regrown wr dq osq)
                                clear HR
                                generalize grow (redrawn wr dq) osq = V at hR ⊢
                                have HR := Lib.hid hR
                                clear hR
                                try simp only [hv_1, e3, e5, e7, Int.zero_mul, Int.zero_emod, Int.reduceMul, Int.reduceMod, Int.reduceAdd]
                                go_wp2_with (first | (go_at_call 48; go_in) | fail)
                                go_meet
                                case rel => refine ⟨_, _, ?_, ?_, hdc, HR.out⟩ <;> first | rfl | exact congrArg (Value.int .u32) (by omega)
                            · by_cases hc3n : 128 ≤ b3
                              · have c31 : (128 : Int) ≤ (b3 : Int) := by omega
                                have c32 : ¬ (b3 : Int) ≤ 191 := by omega
                                as_aux_lemma =>
                                  rw [Hd.hd4x l1 hC (by unfold Hd.lo4 Hd.hi4; (repeat' split) <;> omega)] at hdc
                                  go_wp2_with (first | (go_at_call 48; go_in) | fail)
                                  go_meet
                                  case rel => refine ⟨_, _, ?_, ?_, hdc, HR.out⟩ <;> first | rfl | exact congrArg (Value.int .u32) (by omega)
                              · have c31 : ¬ (128 : Int) ≤ (b3 : Int) := by omega
                                as_aux_lemma =>
                                  rw [Hd.hd4x l1 hC (by unfold Hd.lo4 Hd.hi4; (repeat' split) <;> omega)] at hdc
                                  go_wp2_with (first | (go_at_call 48; go_in) | fail)
                                  go_meet
                                  case rel => refine ⟨_, _, ?_, ?_, hdc, HR.out⟩ <;> first | rfl | exact congrArg (Value.int .u32) (by omega)
                          · by_cases hc2n : 128 ≤ b2
                            · have c21 : (128 : Int) ≤ (b2 : Int) := by omega
                              have c22 : ¬ (b2 : Int) ≤ 191 := by omega
                              as_aux_lemma =>
                                rw [Hd.hd4x l1 hC (by unfold Hd.lo4 Hd.hi4; (repeat' split) <;> omega)] at hdc
                                go_wp2_with (first | (go_at_call 48; go_in) | fail)
                                go_meet
                                case rel => refine ⟨_, _, ?_, ?_, hdc, HR.out⟩ <;> first | rfl | exact congrArg (Value.int .u32) (by omega)
                            · have c21 : ¬ (128 : Int) ≤ (b2 : Int) := by omega
                              as_aux_lemma =>
                                rw [Hd.hd4x l1 hC (by unfold Hd.lo4 Hd.hi4; (repeat' split) <;> omega)] at hdc
                                go_wp2_with (first | (go_at_call 48; go_in) | fail)
                                go_meet
                                case rel => refine ⟨_, _, ?_, ?_, hdc, HR.out⟩ <;> first | rfl | exact congrArg (Value.int .u32) (by omega)
                        · have hhi9 : ¬ (b1 : Int) ≤ 143 := by omega
                          as_aux_lemma =>
                            rw [Hd.hd4x l1 hC (by unfold Hd.lo4 Hd.hi4; (repeat' split) <;> omega)] at hdc
                            go_wp2_with (first | (go_at_call 48; go_in) | fail)
                            go_meet
                            case rel => refine ⟨_, _, ?_, ?_, hdc, HR.out⟩ <;> first | rfl | exact congrArg (Value.int .u32) (by omega)
                      · have hlo9 : ¬ (128 : Int) ≤ (b1 : Int) := by omega
                        as_aux_lemma =>
                          rw [Hd.hd4x l1 hC (by unfold Hd.lo4 Hd.hi4; (repeat' split) <;> omega)] at hdc
                          go_wp2_with (first | (go_at_call 48; go_in) | fail)
                          go_meet
                          case rel => refine ⟨_, _, ?_, ?_, hdc, HR.out⟩ <;> first | rfl | exact congrArg (Value.int .u32) (by omega)
                    · have hn2i : ¬ (4 : Int) ≤ (n9 : Int) := by omega
                      as_aux_lemma =>
                        rw [Hd.hd4x l1 hC (by unfold Hd.lo4 Hd.hi4; (repeat' split) <;> omega)] at hdc
                        go_wp2_with (first | (go_at_call 48; go_in) | fail)
                        go_meet
                        case rel => refine ⟨_, _, ?_, ?_, hdc, HR.out⟩ <;> first | rfl | exact congrArg (Value.int .u32) (by omega)
                  · have q2i : ((b0 : Int) == 244) = false := by rw [beq_eq_false_iff_ne]; omega
                    by_cases hn2 : 4 ≤ n9
                    · have hn2i : (4 : Int) ≤ (n9 : Int) := by omega
                      replace x1 := x1 (by omega)
                      replace x2 := x2 (by omega)
                      replace x3 := x3 hn2
                      by_cases hlo : 128 ≤ b1
                      · have hlo9 : (128 : Int) ≤ (b1 : Int) := by omega
                        by_cases hhi : b1 ≤ 191
                        · have hhi9 : (b1 : Int) ≤ 191 := by omega
                          by_cases hc2 : b2 / 64 = 2
                          · have c21 : (128 : Int) ≤ (b2 : Int) := by omega
                            have c22 : (b2 : Int) ≤ 191 := by omega
                            by_cases hc3 : b3 / 64 = 2
                            · have c31 : (128 : Int) ≤ (b3 : Int) := by omega
                              have c32 : (b3 : Int) ≤ 191 := by omega
                              as_aux_lemma =>
                                rw [Hd.hd4 hC hn2 (by unfold Hd.lo4; split <;> omega) (by unfold Hd.hi4; split <;> omega) hc2 hc3] at hdc
                                go_wp2_with (first | (go_at_call 48; go_in) | fail)
                                have hw_1 : IntKind.i64.wrap ((pos : Int) + 1) = (pos : Int) + 1 := by rw [IntKind.wrap_i64]; omega
                                have hw_2 : IntKind.i64.wrap ((pos : Int) + 2) = (pos : Int) + 2 := by rw [IntKind.wrap_i64]; omega
                                have hw_3 : IntKind.i64.wrap ((pos : Int) + 3) = (pos : Int) + 3 := by rw [IntKind.wrap_i64]; omega
                                have hv_1 : IntKind.u32.wrap ((b0 : Int) % 8 * 262144) = (b0 : Int) % 8 * 262144 := by rw [IntKind.wrap_u32]; omega
                                have hv_2 : IntKind.u32.wrap ((b1 : Int) % 64) = (b1 : Int) % 64 := by rw [IntKind.wrap_u32]; omega
                                have hv_3 : IntKind.u32.wrap ((b1 : Int) % 64 * 4096) = (b1 : Int) % 64 * 4096 := by rw [IntKind.wrap_u32]; omega
                                have hv_4 : IntKind.u32.wrap ((b2 : Int) % 64) = (b2 : Int) % 64 := by rw [IntKind.wrap_u32]; omega
                                have hv_5 : IntKind.u32.wrap ((b2 : Int) % 64 * 64) = (b2 : Int) % 64 * 64 := by rw [IntKind.wrap_u32]; omega
                                have hv_6 : IntKind.u32.wrap ((b3 : Int) % 64) = (b3 : Int) % 64 := by rw [IntKind.wrap_u32]; omega
                                have e1 := u32_and7 b0 l0
                                have e2 := u8_and63n b1 l1
                                have e4 := u8_and63n b2 l2
                                have e6 := u8_and63n b3 l3
                                have e3 : bits .or .u32 ((b0 : Int) % 8 * 262144) ((b1 : Int) % 64 * 4096) = (b0 : Int) % 8 * 262144 + (b1 : Int) % 64 * 4096 := u32_or18 (by omega) (by omega) (by omega) (by omega) (by omega)
                                have e5 : bits .or .u32 ((b0 : Int) % 8 * 262144 + (b1 : Int) % 64 * 4096) ((b2 : Int) % 64 * 64) = (b0 : Int) % 8 * 262144 + (b1 : Int) % 64 * 4096 + (b2 : Int) % 64 * 64 := u32_or12 (by omega) (by omega) (by omega) (by omega) (by omega)
                                have e7 : bits .or .u32 ((b0 : Int) % 8 * 262144 + (b1 : Int) % 64 * 4096 + (b2 : Int) % 64 * 64) ((b3 : Int) % 64) = (b0 : Int) % 8 * 262144 + (b1 : Int) % 64 * 4096 + (b2 : Int) % 64 * 64 + (b3 : Int) % 64 := u32_or6 (by omega) (by omega) (by omega) (by omega) (by omega)
                                refine wp_region_quiet_below (by kernel_rfl) (by kernel_rfl) ?_
                                repeat (quiet_step (fail))
                                refine wpQuiet_nil ?_
                                intro _ hw'
                                obtain ⟨⟨dq, osq⟩, hw9⟩ := hw'
                                subst hw9
                                have hR := HR.out.step (below_regrown wr dq osq)
                                clear HR
                                generalize grow (redrawn wr dq) osq = V at hR ⊢
                                have HR := Lib.hid hR
                                clear hR
                                try simp only [hv_1, e3, e5, e7, Int.zero_mul, Int.zero_emod, Int.reduceMul, Int.reduceMod, Int.reduceAdd]
                                go_wp2_with (first | (go_at_call 48; go_in) | fail)
                                go_meet
                                case rel => refine ⟨_, _, ?_, ?_, hdc, HR.out⟩ <;> first | rfl | exact congrArg (Value.int .u32) (by omega)
                            · by_cases hc3n : 128 ≤ b3
                              · have c31 : (128 : Int) ≤ (b3 : Int) := by omega
                                have c32 : ¬ (b3 : Int) ≤ 191 := by omega
                                as_aux_lemma =>
                                  rw [Hd.hd4x l1 hC (by unfold Hd.lo4 Hd.hi4; (repeat' split) <;> omega)] at hdc
                                  go_wp2_with (first | (go_at_call 48; go_in) | fail)
                                  go_meet
                                  case rel => refine ⟨_, _, ?_, ?_, hdc, HR.out⟩ <;> first | rfl | exact congrArg (Value.int .u32) (by omega)
                              · have c31 : ¬ (128 : Int) ≤ (b3 : Int) := by omega
                                as_aux_lemma =>
                                  rw [Hd.hd4x l1 hC (by unfold Hd.lo4 Hd.hi4; (repeat' split) <;> omega)] at hdc
                                  go_wp2_with (first | (go_at_call 48; go_in) | fail)
                                  go_meet
                                  case rel => refine ⟨_, _, ?_, ?_, hdc, HR.out⟩ <;> first | rfl | exact congrArg (Value.int .u32) (by omega)
                          · by_cases hc2n : 128 ≤ b2
                            · have c21 : (128 : Int) ≤ (b2 : Int) := by omega
                              have c22 : ¬ (b2 : Int) ≤ 191 := by omega
                              as_aux_lemma =>
                                rw [Hd.hd4x l1 hC (by unfold Hd.lo4 Hd.hi4; (repeat' split) <;> omega)] at hdc
                                go_wp2_with (first | (go_at_call 48; go_in) | fail)
                                go_meet
                                case rel => refine ⟨_, _, ?_, ?_, hdc, HR.out⟩ <;> first | rfl | exact congrArg (Value.int .u32) (by omega)
                            · have c21 : ¬ (128 : Int) ≤ (b2 : Int) := by omega
                              as_aux_lemma =>
                                rw [Hd.hd4x l1 hC (by unfold Hd.lo4 Hd.hi4; (repeat' split) <;> omega)] at hdc
                                go_wp2_with (first | (go_at_call 48; go_in) | fail)
                                go_meet
                                case rel => refine ⟨_, _, ?_, ?_, hdc, HR.out⟩ <;> first | rfl | exact congrArg (Value.int .u32) (by omega)
                        · have hhi9 : ¬ (b1 : Int) ≤ 191 := by omega
                          as_aux_lemma =>
                            rw [Hd.hd4x l1 hC (by unfold Hd.lo4 Hd.hi4; (repeat' split) <;> omega)] at hdc
                            go_wp2_with (first | (go_at_call 48; go_in) | fail)
                            go_meet
                            case rel => refine ⟨_, _, ?_, ?_, hdc, HR.out⟩ <;> first | rfl | exact congrArg (Value.int .u32) (by omega)
                      · have hlo9 : ¬ (128 : Int) ≤ (b1 : Int) := by omega
                        as_aux_lemma =>
                          rw [Hd.hd4x l1 hC (by unfold Hd.lo4 Hd.hi4; (repeat' split) <;> omega)] at hdc
                          go_wp2_with (first | (go_at_call 48; go_in) | fail)
                          go_meet
                          case rel => refine ⟨_, _, ?_, ?_, hdc, HR.out⟩ <;> first | rfl | exact congrArg (Value.int .u32) (by omega)
                    · have hn2i : ¬ (4 : Int) ≤ (n9 : Int) := by omega
                      as_aux_lemma =>
                        rw [Hd.hd4x l1 hC (by unfold Hd.lo4 Hd.hi4; (repeat' split) <;> omega)] at hdc
                        go_wp2_with (first | (go_at_call 48; go_in) | fail)
                        go_meet
                        case rel => refine ⟨_, _, ?_, ?_, hdc, HR.out⟩ <;> first | rfl | exact congrArg (Value.int .u32) (by omega)
              · by_cases hC5 : b0 < 194
                · have hC1 : ¬ (194 : Int) ≤ (b0 : Int) := by omega
                  have hC2 : ¬ (224 : Int) ≤ (b0 : Int) := by omega
                  have hC3 : ¬ (240 : Int) ≤ (b0 : Int) := by omega
                  as_aux_lemma =>
                    rw [Hd.hdX l0 (by omega)] at hdc
                    go_wp2_with (first | (go_at_call 48; go_in) | fail)
                    go_meet
                    case rel => refine ⟨_, _, ?_, ?_, hdc, HR.out⟩ <;> first | rfl | exact congrArg (Value.int .u32) (by omega)
                · have hC1 : ¬ (b0 : Int) ≤ 223 := by omega
                  have hC2 : ¬ (b0 : Int) ≤ 239 := by omega
                  have hC3 : ¬ (b0 : Int) ≤ 244 := by omega
                  as_aux_lemma =>
                    rw [Hd.hdX l0 (by omega)] at hdc
                    go_wp2_with (first | (go_at_call 48; go_in) | fail)
                    go_meet
                    case rel => refine ⟨_, _, ?_, ?_, hdc, HR.out⟩ <;> first | rfl | exact congrArg (Value.int .u32) (by omega)
    · obtain rfl : pos = nm.size := by omega
      have hend := u16_last hsum hlt
      have HR := Lib.hid hR
      clear hR
      go_wp2
      go_returns
      exact ⟨ub, c, by rw [hend]; rfl, by rw [hend]; exact HR.out⟩
end Go.Proofs.YtkhmjppfogppoaaDoor.Use
