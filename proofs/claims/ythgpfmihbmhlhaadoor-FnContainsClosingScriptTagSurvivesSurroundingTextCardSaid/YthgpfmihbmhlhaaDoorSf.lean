/- unicode.SimpleFold at the letters of 'script' and the long s, walked. Condition: the tables asciiFold and caseOrbit hold what the program's text lays. -/
import Derived.Test.YthgpfmihbmhlhaaDoorHas
import Derived.Below
import Derived.Lib.MapLaws
import Derived.Lib.DecodeN
namespace Go.Proofs.YthgpfmihbmhlhaaDoor.Tag
open Go.RowKit
set_option linter.unusedVariables false
def ascZ : List Int := [0, 1, 2, 3, 4, 5, 6, 7, 8, 9, 10, 11, 12, 13, 14, 15, 16, 17, 18, 19, 20, 21, 22, 23, 24, 25, 26, 27, 28, 29, 30, 31, 32, 33, 34, 35, 36, 37, 38, 39, 40, 41, 42, 43, 44, 45, 46, 47, 48, 49, 50, 51, 52, 53, 54, 55, 56, 57, 58, 59, 60, 61, 62, 63, 64, 97, 98, 99, 100, 101, 102, 103, 104, 105, 106, 107, 108, 109, 110, 111, 112, 113, 114, 115, 116, 117, 118, 119, 120, 121, 122, 91, 92, 93, 94, 95, 96, 65, 66, 67, 68, 69, 70, 71, 72, 73, 74, 8490, 76, 77, 78, 79, 80, 81, 82, 383, 84, 85, 86, 87, 88, 89, 90, 123, 124, 125, 126, 127]
def orbZ : List Int := [75, 107, 83, 115, 107, 8490, 115, 383, 181, 924, 197, 229, 223, 7838, 229, 8491, 304, 304, 305, 305, 383, 83, 452, 453, 453, 454, 454, 452, 455, 456, 456, 457, 457, 455, 458, 459, 459, 460, 460, 458, 497, 498, 498, 499, 499, 497, 837, 921, 912, 8147, 914, 946, 917, 949, 920, 952, 921, 953, 922, 954, 924, 956, 928, 960, 929, 961, 931, 962, 934, 966, 937, 969, 944, 8163, 946, 976, 949, 1013, 952, 977, 953, 8126, 954, 1008, 956, 181, 960, 982, 961, 1009, 962, 963, 963, 931, 966, 981, 969, 8486, 976, 914, 977, 1012, 981, 934, 982, 928, 1008, 922, 1009, 929, 1012, 920, 1013, 917, 1042, 1074, 1044, 1076, 1054, 1086, 1057, 1089, 1058, 1090, 1066, 1098, 1074, 7296, 1076, 7297, 1086, 7298, 1089, 7299, 1090, 7300, 1098, 7302, 1122, 1123, 1123, 7303, 7296, 1042, 7297, 1044, 7298, 1054, 7299, 1057, 7300, 7301, 7301, 1058, 7302, 1066, 7303, 1122, 7304, 42570, 7776, 7777, 7777, 7835, 7835, 7776, 7838, 223, 8126, 837, 8147, 912, 8163, 944, 8486, 937, 8490, 75, 8491, 197, 42570, 42571, 42571, 7304, 64261, 64262, 64262, 64261]
/-- The two tables, as the program's text lays them. -/
def Tabs (w : World) : Prop := (∀ r, r < 128 → w.cell? ⟨0, r, none⟩ = some (.int .u16 (ascZ.getD r 0))) ∧
  ∃ b o c, w.cell? ⟨1, 0, none⟩ = some (.slice (some ⟨b, o, none⟩) 94 c) ∧ ∀ k, k < 188 → w.cell? ⟨b, o + k, none⟩ = some (.int .u16 (orbZ.getD k 0))
theorem cell_lt {w : World} {b o : Nat} {v : Value} (h : w.cell? ⟨b, o, none⟩ = some v) : b < w.heap.size := by
  simp only [World.cell?] at h
  cases hb : w.heap[b]? with
  | none => rw [hb] at h; simp at h
  | some x => exact (Array.getElem?_eq_some_iff.1 hb).1
theorem Tabs.below {w w' : World} (h : Tabs w) (hb : Below w.heap.size w w') : Tabs w' := by
  obtain ⟨h1, b, o, c, h2, h3⟩ := h
  refine ⟨fun r hr => ?_, b, o, c, ?_, fun k hk => ?_⟩
  · have := h1 r hr
    rw [← this]; exact hb.cell (p := ⟨0, r, none⟩) (cell_lt this)
  · rw [← h2]; exact hb.cell (p := ⟨1, 0, none⟩) (cell_lt h2)
  · have := h3 k hk
    rw [← this]; exact hb.cell (p := ⟨b, o + k, none⟩) (cell_lt this)
set_option maxRecDepth 100000 in
theorem fold_low (r : Nat) (v : Int) (w : World) (hr : r < 128) (hc : w.cell? ⟨0, r, none⟩ = some (.int .u16 v)) (h0 : 0 ≤ v) (h1 : v < 65536) :
    Calls Tryd.prog 14 #[.int .i32 (r : Int)] w fun e w' => e = .returned (.int .i32 v) ∧ w = w' := by
  have hr' : (r : Int) < 128 := by omega
  have e1 : IntKind.i32.wrap v = v := by rw [IntKind.wrap_i32]; omega
  go_enter Tryd.func14, Tryd.ntmps14
  go_wp2
  go_ret
  exact ⟨rfl, rfl⟩
def Hop (lo hi : Int) (g : Nat) : Prop := (lo = 0 ∧ hi = 94 ∧ g = 8) ∨ (lo = 0 ∧ hi = 47 ∧ g = 7) ∨ (lo = 0 ∧ hi = 23 ∧ g = 6) ∨ (lo = 0 ∧ hi = 11 ∧ g = 5) ∨ (lo = 6 ∧ hi = 11 ∧ g = 4) ∨ (lo = 9 ∧ hi = 11 ∧ g = 3) ∨ (lo = 9 ∧ hi = 10 ∧ g = 2) ∨ (lo = 10 ∧ hi = 10 ∧ g = 1)
set_option maxRecDepth 100000 in
set_option maxHeartbeats 2000000 in
theorem fold_383 (w : World) (b o c : Nat) (h2 : w.cell? ⟨1, 0, none⟩ = some (.slice (some ⟨b, o, none⟩) 94 c)) (h3 : ∀ k, k < 188 → w.cell? ⟨b, o + k, none⟩ = some (.int .u16 (orbZ.getD k 0))) :
    Calls Tryd.prog 14 #[.int .i32 383] w fun e w' => e = .returned (.int .i32 83) ∧ w = w' := by
  have c47 : w.cell? ⟨b, o + 94, none⟩ = some (.int .u16 966) := h3 94 (by decide)
  have c23 : w.cell? ⟨b, o + 46, none⟩ = some (.int .u16 837) := h3 46 (by decide)
  have c11 : w.cell? ⟨b, o + 22, none⟩ = some (.int .u16 452) := h3 22 (by decide)
  have c5 : w.cell? ⟨b, o + 10, none⟩ = some (.int .u16 197) := h3 10 (by decide)
  have c8 : w.cell? ⟨b, o + 16, none⟩ = some (.int .u16 304) := h3 16 (by decide)
  have c10 : w.cell? ⟨b, o + 20, none⟩ = some (.int .u16 383) := h3 20 (by decide)
  have c9 : w.cell? ⟨b, o + 18, none⟩ = some (.int .u16 305) := h3 18 (by decide)
  have c21 : w.cell? ⟨b, o + 21, none⟩ = some (.int .u16 83) := h3 21 (by decide)
  clear h3
  go_enter Tryd.func14, Tryd.ntmps14
  go_wp2
  go_loopg [3, 4] 8 (fun g lo hi wx => ∃ l h : Int, lo = .int .i64 l ∧ hi = .int .i64 h ∧ Hop l h g ∧ w = wx)
  case atStart => exact ⟨0, 94, rfl, rfl, Or.inl ⟨rfl, rfl, rfl⟩, rfl⟩
  case round =>
    obtain ⟨l, h, rfl, rfl, hh, rfl⟩ := hrel
    rcases hh with ⟨rfl, rfl, rfl⟩ | ⟨rfl, rfl, rfl⟩ | ⟨rfl, rfl, rfl⟩ | ⟨rfl, rfl, rfl⟩ | ⟨rfl, rfl, rfl⟩ | ⟨rfl, rfl, rfl⟩ | ⟨rfl, rfl, rfl⟩ | ⟨rfl, rfl, rfl⟩
    · go_wp2
      go_roundg 7
      case measure => omega
      case rel => exact ⟨_, _, rfl, rfl, by unfold Hop; omega, rfl⟩
    · go_wp2
      go_roundg 6
      case measure => omega
      case rel => exact ⟨_, _, rfl, rfl, by unfold Hop; omega, rfl⟩
    · go_wp2
      go_roundg 5
      case measure => omega
      case rel => exact ⟨_, _, rfl, rfl, by unfold Hop; omega, rfl⟩
    · go_wp2
      go_roundg 4
      case measure => omega
      case rel => exact ⟨_, _, rfl, rfl, by unfold Hop; omega, rfl⟩
    · go_wp2
      go_roundg 3
      case measure => omega
      case rel => exact ⟨_, _, rfl, rfl, by unfold Hop; omega, rfl⟩
    · go_wp2
      go_roundg 2
      case measure => omega
      case rel => exact ⟨_, _, rfl, rfl, by unfold Hop; omega, rfl⟩
    · go_wp2
      go_roundg 1
      case measure => omega
      case rel => exact ⟨_, _, rfl, rfl, by unfold Hop; omega, rfl⟩
    · go_wp2
      go_ret
      exact ⟨rfl, rfl⟩
end Go.Proofs.YthgpfmihbmhlhaaDoor.Tag
