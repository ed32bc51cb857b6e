/- zzIndex at '</' and zzLowerASCII, walked. No condition but the text's length. -/
import Derived.Test.YthgpfmihbmhlhaaDoorProg
import Derived.Test.YthgpfmihbmhlhaaDoorTag
import Derived.WalkKit
import Derived.Handy
import Derived.Laws.DeepStrings4
import Derived.Lib.Strings
import Derived.Lib.Hide
namespace Go.Proofs.YthgpfmihbmhlhaaDoor.Tag
open Go.RowKit
set_option linter.unusedVariables false
theorem lower (c : UInt8) (w : World) : Calls Tryd.prog 10 #[.int .u8 c.toNat] w fun e w' => e = .returned (.int .u8 (low c).toNat) ∧ w = w' := by
  have hc := c.toNat_lt
  by_cases h : 65 ≤ c.toNat ∧ c.toNat ≤ 90
  · have e : (low c).toNat = c.toNat + 32 := by
      unfold low
      rw [if_pos h, UInt8.toNat_add]
      show (c.toNat + 32) % 256 = _
      omega
    rw [e]
    obtain ⟨h1, h2⟩ := h
    have h1' : (65 : Int) ≤ c.toNat := by omega
    have h2' : (c.toNat : Int) ≤ 90 := by omega
    go_enter Tryd.func10, Tryd.ntmps10
    go_wp2
    go_ret
    refine ⟨?_, rfl⟩
    simp
  · have e : (low c).toNat = c.toNat := by unfold low; rw [if_neg h]
    rw [e]
    by_cases h1 : (65 : Int) ≤ c.toNat
    · have h2 : ¬ (c.toNat : Int) ≤ 90 := by omega
      go_enter Tryd.func10, Tryd.ntmps10
      go_wp2
      go_ret
      exact ⟨rfl, rfl⟩
    · go_enter Tryd.func10, Tryd.ntmps10
      go_wp2
      go_ret
      exact ⟨rfl, rfl⟩
/-- The bytes from i on open with '</' exactly where the two bytes there are those. -/
theorem openAt_extract (s : ByteArray) (i : Nat) (h : i + 2 ≤ s.size) : openAt (s.data.toList.drop i) = ((s.extract i (i + 2)).toList == [60, 47]) := by
  rw [Lib.toList_data]
  simp [openAt]
theorem index_at (s : ByteArray) (k : Nat) (hk : openAt (s.data.toList.drop k) = true) (hb : ∀ j, j < k → openAt (s.data.toList.drop j) = false) (hs : s.size ≤ 1048576) (w : World) :
    Calls Tryd.prog 11 #[.string s, .string ⟨#[60, 47]⟩] w fun e w' => e = .returned (.int .i64 k) ∧ w = w' := by
  have hkl : k + 2 ≤ s.size := by
    have := openAt_len hk
    rw [List.length_drop] at this
    have e : s.data.toList.length = s.size := by simp
    omega
  have HK := Lib.hid hk
  have HB := Lib.hid hb
  clear hk hb
  go_enter Tryd.func11, Tryd.ntmps11
  go_wp2
  go_loop [5] (fun i => ∃ n : Nat, n ≤ k ∧ i = .int .i64 n) (fun i => k - (intOf i).toNat)
  case atStart => exact ⟨0, Nat.zero_le _, rfl⟩
  case round =>
    obtain ⟨n, hn, rfl⟩ := hrel
    have h2 : (n : Int) + 2 ≤ s.size := by omega
    by_cases h : n < k
    · have hx : ((s.extract n (n + 2)).toList == [60, 47]) = false := by rw [← openAt_extract s n (by omega)]; exact HB.out n h
      go_wp2
      refine ⟨⟨n + 1, by omega, by go_num⟩, by simp [intOf]; omega⟩
    · obtain rfl : n = k := by omega
      have hx : ((s.extract n (n + 2)).toList == [60, 47]) = true := by rw [← openAt_extract s n (by omega)]; exact HK.out
      go_wp2
      go_ret
      exact ⟨rfl, rfl⟩
theorem index_none (s : ByteArray) (hb : ∀ j, openAt (s.data.toList.drop j) = false) (hs : s.size ≤ 1048576) (w : World) :
    Calls Tryd.prog 11 #[.string s, .string ⟨#[60, 47]⟩] w fun e w' => e = .returned (.int .i64 (-1)) ∧ w = w' := by
  have HB := Lib.hid hb
  clear hb
  go_enter Tryd.func11, Tryd.ntmps11
  go_wp2
  go_loop [5] (fun i => ∃ n : Nat, n ≤ s.size ∧ i = .int .i64 n) (fun i => s.size - (intOf i).toNat)
  case atStart => exact ⟨0, Nat.zero_le _, rfl⟩
  case round =>
    obtain ⟨n, hn, rfl⟩ := hrel
    by_cases h : n + 2 ≤ s.size
    · have h2 : (n : Int) + 2 ≤ s.size := by omega
      have hx : ((s.extract n (n + 2)).toList == [60, 47]) = false := by rw [← openAt_extract s n (by omega)]; exact HB.out n
      go_wp2
      refine ⟨⟨n + 1, by omega, by go_num⟩, by simp [intOf]; omega⟩
    · have h2 : ¬ (n : Int) + 2 ≤ s.size := by omega
      go_wp2
      go_ret
      exact ⟨rfl, rfl⟩
end Go.Proofs.YthgpfmihbmhlhaaDoor.Tag
