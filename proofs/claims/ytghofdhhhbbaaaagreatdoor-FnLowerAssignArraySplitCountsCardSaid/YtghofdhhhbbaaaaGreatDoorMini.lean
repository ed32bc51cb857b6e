/- Short names: NumberToMinifiedName, walked. Condition: the number is at most 2^20. -/
import Derived.Test.YtghofdhhhbbaaaaGreatDoorSbw
import Derived.Test.YtghofdhhhbbaaaaGreatDoorShelf
import Derived.Lib.Hide
import Derived.Lib.Strings
import Derived.Laws.DeepStrings4
import Derived.Deep.LoopGhost
namespace Go.Proofs.YtghofdhhhbbaaaaGreatDoor.Use
open Go.RowKit
set_option linter.unusedVariables false
def headL : List UInt8 := [97, 98, 99, 100, 101, 102, 103, 104, 105, 106, 107, 108, 109, 110, 111, 112, 113, 114, 115, 116, 117, 118, 119, 120, 121, 122, 65, 66, 67, 68, 69, 70, 71, 72, 73, 74, 75, 76, 77, 78, 79, 80, 81, 82, 83, 84, 85, 86, 87, 88, 89, 90, 95, 36]
def tailL : List UInt8 := [97, 98, 99, 100, 101, 102, 103, 104, 105, 106, 107, 108, 109, 110, 111, 112, 113, 114, 115, 116, 117, 118, 119, 120, 121, 122, 65, 66, 67, 68, 69, 70, 71, 72, 73, 74, 75, 76, 77, 78, 79, 80, 81, 82, 83, 84, 85, 86, 87, 88, 89, 90, 48, 49, 50, 51, 52, 53, 54, 55, 56, 57, 95, 36]
/-- The signs behind the first one. -/
def nmT : Nat → Nat → List UInt8
  | 0, _ => []
  | f + 1, n => if n = 0 then [] else tailL.getD ((n - 1) % 64) 0 :: nmT f ((n - 1) / 64)
/-- The i-th short name. -/
def nm (i : Nat) : List UInt8 := headL.getD (i % 54) 0 :: nmT i (i / 54)
theorem nmT_zero (f : Nat) : nmT f 0 = [] := by cases f <;> simp [nmT]
theorem nmT_len : ∀ (f n : Nat), (nmT f n).length ≤ f
  | 0, _ => by simp [nmT]
  | f + 1, n => by
    unfold nmT
    split
    · simp
    · have := nmT_len f ((n - 1) / 64)
      simp only [List.length_cons]
      omega
theorem one_of (s : ByteArray) (l : List UInt8) (j : Nat) (hs : s.data.toList = l) (hj : j < l.length) : Lib.strCells (s.extract j (j + 1)) = Lib.byteCells [l.getD j 0] := by
  have e : (s.extract j (j + 1)).data.toList = [l.getD j 0] := by
    rw [ByteArray.data_extract, Array.toList_extract, hs]
    rw [List.extract_eq_take_drop, show j + 1 - j = 1 by omega, List.drop_eq_getElem_cons hj, List.take_succ_cons, List.take_zero, List.getD, List.getElem?_eq_getElem hj]
    rfl
  rw [Lib.strCells_eq, e]
def NmRel (i : Nat) (w : World) (g : Nat) (v : Value) (wx : World) : Prop := ∃ (n f : Nat) (l : List UInt8), v = .int .i64 (n : Int) ∧ f + 1 = g ∧ l ++ nmT f n = nm i ∧ l ≠ [] ∧ l.length + f ≤ i + 1 ∧ n ≤ f ∧
  Lib.BuilderAt 330 5 (w.heap.size + 1) (w.heap.size + 1) (.pointer (some ⟨w.heap.size + 1, 0, none⟩)) (Lib.byteCells l) wx ∧ Below w.heap.size w wx ∧ w.heap.size + 1 ≤ wx.heap.size ∧
  wx.cell? ⟨w.heap.size, 0, none⟩ = some (.string ⟨#[97, 98, 99, 100, 101, 102, 103, 104, 105, 106, 107, 108, 109, 110, 111, 112, 113, 114, 115, 116, 117, 118, 119, 120, 121, 122, 65, 66, 67, 68, 69, 70, 71, 72, 73, 74, 75, 76, 77, 78, 79, 80, 81, 82, 83, 84, 85, 86, 87, 88, 89, 90, 95, 36]⟩) ∧ wx.cell? ⟨w.heap.size, 1, none⟩ = some (.string ⟨#[97, 98, 99, 100, 101, 102, 103, 104, 105, 106, 107, 108, 109, 110, 111, 112, 113, 114, 115, 116, 117, 118, 119, 120, 121, 122, 65, 66, 67, 68, 69, 70, 71, 72, 73, 74, 75, 76, 77, 78, 79, 80, 81, 82, 83, 84, 85, 86, 87, 88, 89, 90, 48, 49, 50, 51, 52, 53, 54, 55, 56, 57, 95, 36]⟩)
set_option maxRecDepth 100000 in
set_option maxHeartbeats 2000000 in
theorem mini (i : Nat) (hi : i ≤ 1048576) (w : World) :
    Calls Tryz.prog 54 #[.agg #[.string ⟨#[97, 98, 99, 100, 101, 102, 103, 104, 105, 106, 107, 108, 109, 110, 111, 112, 113, 114, 115, 116, 117, 118, 119, 120, 121, 122, 65, 66, 67, 68, 69, 70, 71, 72, 73, 74, 75, 76, 77, 78, 79, 80, 81, 82, 83, 84, 85, 86, 87, 88, 89, 90, 95, 36]⟩, .string ⟨#[97, 98, 99, 100, 101, 102, 103, 104, 105, 106, 107, 108, 109, 110, 111, 112, 113, 114, 115, 116, 117, 118, 119, 120, 121, 122, 65, 66, 67, 68, 69, 70, 71, 72, 73, 74, 75, 76, 77, 78, 79, 80, 81, 82, 83, 84, 85, 86, 87, 88, 89, 90, 48, 49, 50, 51, 52, 53, 54, 55, 56, 57, 95, 36]⟩], .int .i64 (i : Int)] w fun e w' => e = .returned (.string ⟨(nm i).toArray⟩) ∧ Below w.heap.size w w' := by
  obtain ⟨j0, hj0⟩ : ∃ j0 : Nat, i % 54 = j0 := ⟨_, rfl⟩
  obtain ⟨q0, hq0⟩ : ∃ q0 : Nat, i / 54 = q0 := ⟨_, rfl⟩
  have r1 : (i : Int).tmod 54 = (j0 : Int) := by rw [Int.tmod_eq_emod_of_nonneg (by omega)]; omega
  have r2 : (i : Int).tdiv 54 = (q0 : Int) := by rw [Int.tdiv_eq_ediv_of_nonneg (by omega)]; omega
  have b1 : (j0 : Int) < 54 := by omega
  have b2 : (j0 : Int) + 1 ≤ 54 := by omega
  have b3 : q0 ≤ i := by omega
  have b4 : (q0 : Int) ≤ 1048576 := by omega
  have HI := Lib.hid (And.intro hj0 hq0)
  clear hj0 hq0
  go_enter Tryz.func54, Tryz.ntmps54
  go_wp2_with fail
  have hfr := Lib.fresh_isBuilder 330 5 (w.alloc (.cells #[.string ⟨#[97, 98, 99, 100, 101, 102, 103, 104, 105, 106, 107, 108, 109, 110, 111, 112, 113, 114, 115, 116, 117, 118, 119, 120, 121, 122, 65, 66, 67, 68, 69, 70, 71, 72, 73, 74, 75, 76, 77, 78, 79, 80, 81, 82, 83, 84, 85, 86, 87, 88, 89, 90, 95, 36]⟩, .string ⟨#[97, 98, 99, 100, 101, 102, 103, 104, 105, 106, 107, 108, 109, 110, 111, 112, 113, 114, 115, 116, 117, 118, 119, 120, 121, 122, 65, 66, 67, 68, 69, 70, 71, 72, 73, 74, 75, 76, 77, 78, 79, 80, 81, 82, 83, 84, 85, 86, 87, 88, 89, 90, 48, 49, 50, 51, 52, 53, 54, 55, 56, 57, 95, 36]⟩] 290))
  have hsz : (w.alloc (.cells #[.string ⟨#[97, 98, 99, 100, 101, 102, 103, 104, 105, 106, 107, 108, 109, 110, 111, 112, 113, 114, 115, 116, 117, 118, 119, 120, 121, 122, 65, 66, 67, 68, 69, 70, 71, 72, 73, 74, 75, 76, 77, 78, 79, 80, 81, 82, 83, 84, 85, 86, 87, 88, 89, 90, 95, 36]⟩, .string ⟨#[97, 98, 99, 100, 101, 102, 103, 104, 105, 106, 107, 108, 109, 110, 111, 112, 113, 114, 115, 116, 117, 118, 119, 120, 121, 122, 65, 66, 67, 68, 69, 70, 71, 72, 73, 74, 75, 76, 77, 78, 79, 80, 81, 82, 83, 84, 85, 86, 87, 88, 89, 90, 48, 49, 50, 51, 52, 53, 54, 55, 56, 57, 95, 36]⟩] 290)).heap.size = w.heap.size + 1 := by simp
  rw [hsz] at hfr
  have hbl : Below w.heap.size w ((w.alloc (.cells #[.string ⟨#[97, 98, 99, 100, 101, 102, 103, 104, 105, 106, 107, 108, 109, 110, 111, 112, 113, 114, 115, 116, 117, 118, 119, 120, 121, 122, 65, 66, 67, 68, 69, 70, 71, 72, 73, 74, 75, 76, 77, 78, 79, 80, 81, 82, 83, 84, 85, 86, 87, 88, 89, 90, 95, 36]⟩, .string ⟨#[97, 98, 99, 100, 101, 102, 103, 104, 105, 106, 107, 108, 109, 110, 111, 112, 113, 114, 115, 116, 117, 118, 119, 120, 121, 122, 65, 66, 67, 68, 69, 70, 71, 72, 73, 74, 75, 76, 77, 78, 79, 80, 81, 82, 83, 84, 85, 86, 87, 88, 89, 90, 48, 49, 50, 51, 52, 53, 54, 55, 56, 57, 95, 36]⟩] 290)).alloc (.cells #[.pointer none, .slice none 0 0] 330)) := ((Below.refl _ _).alloc (Nat.le_refl _) _).alloc (by simp) _
  have k0 : ((w.alloc (.cells #[.string ⟨#[97, 98, 99, 100, 101, 102, 103, 104, 105, 106, 107, 108, 109, 110, 111, 112, 113, 114, 115, 116, 117, 118, 119, 120, 121, 122, 65, 66, 67, 68, 69, 70, 71, 72, 73, 74, 75, 76, 77, 78, 79, 80, 81, 82, 83, 84, 85, 86, 87, 88, 89, 90, 95, 36]⟩, .string ⟨#[97, 98, 99, 100, 101, 102, 103, 104, 105, 106, 107, 108, 109, 110, 111, 112, 113, 114, 115, 116, 117, 118, 119, 120, 121, 122, 65, 66, 67, 68, 69, 70, 71, 72, 73, 74, 75, 76, 77, 78, 79, 80, 81, 82, 83, 84, 85, 86, 87, 88, 89, 90, 48, 49, 50, 51, 52, 53, 54, 55, 56, 57, 95, 36]⟩] 290)).alloc (.cells #[.pointer none, .slice none 0 0] 330)).cell? ⟨w.heap.size, 0, none⟩ = some (.string ⟨#[97, 98, 99, 100, 101, 102, 103, 104, 105, 106, 107, 108, 109, 110, 111, 112, 113, 114, 115, 116, 117, 118, 119, 120, 121, 122, 65, 66, 67, 68, 69, 70, 71, 72, 73, 74, 75, 76, 77, 78, 79, 80, 81, 82, 83, 84, 85, 86, 87, 88, 89, 90, 95, 36]⟩) := by simp
  have k1 : ((w.alloc (.cells #[.string ⟨#[97, 98, 99, 100, 101, 102, 103, 104, 105, 106, 107, 108, 109, 110, 111, 112, 113, 114, 115, 116, 117, 118, 119, 120, 121, 122, 65, 66, 67, 68, 69, 70, 71, 72, 73, 74, 75, 76, 77, 78, 79, 80, 81, 82, 83, 84, 85, 86, 87, 88, 89, 90, 95, 36]⟩, .string ⟨#[97, 98, 99, 100, 101, 102, 103, 104, 105, 106, 107, 108, 109, 110, 111, 112, 113, 114, 115, 116, 117, 118, 119, 120, 121, 122, 65, 66, 67, 68, 69, 70, 71, 72, 73, 74, 75, 76, 77, 78, 79, 80, 81, 82, 83, 84, 85, 86, 87, 88, 89, 90, 48, 49, 50, 51, 52, 53, 54, 55, 56, 57, 95, 36]⟩] 290)).alloc (.cells #[.pointer none, .slice none 0 0] 330)).cell? ⟨w.heap.size, 1, none⟩ = some (.string ⟨#[97, 98, 99, 100, 101, 102, 103, 104, 105, 106, 107, 108, 109, 110, 111, 112, 113, 114, 115, 116, 117, 118, 119, 120, 121, 122, 65, 66, 67, 68, 69, 70, 71, 72, 73, 74, 75, 76, 77, 78, 79, 80, 81, 82, 83, 84, 85, 86, 87, 88, 89, 90, 48, 49, 50, 51, 52, 53, 54, 55, 56, 57, 95, 36]⟩) := by simp
  have hs2 : ((w.alloc (.cells #[.string ⟨#[97, 98, 99, 100, 101, 102, 103, 104, 105, 106, 107, 108, 109, 110, 111, 112, 113, 114, 115, 116, 117, 118, 119, 120, 121, 122, 65, 66, 67, 68, 69, 70, 71, 72, 73, 74, 75, 76, 77, 78, 79, 80, 81, 82, 83, 84, 85, 86, 87, 88, 89, 90, 95, 36]⟩, .string ⟨#[97, 98, 99, 100, 101, 102, 103, 104, 105, 106, 107, 108, 109, 110, 111, 112, 113, 114, 115, 116, 117, 118, 119, 120, 121, 122, 65, 66, 67, 68, 69, 70, 71, 72, 73, 74, 75, 76, 77, 78, 79, 80, 81, 82, 83, 84, 85, 86, 87, 88, 89, 90, 48, 49, 50, 51, 52, 53, 54, 55, 56, 57, 95, 36]⟩] 290)).alloc (.cells #[.pointer none, .slice none 0 0] 330)).heap.size = w.heap.size + 2 := by simp
  refine (writeString (w.heap.size + 1) (w.heap.size + 1) [] _ _ hfr ?_ ?_).mono ?_
  · simp [ByteArray.size_extract]; omega
  · omega
  generalize (w.alloc (.cells #[.string ⟨#[97, 98, 99, 100, 101, 102, 103, 104, 105, 106, 107, 108, 109, 110, 111, 112, 113, 114, 115, 116, 117, 118, 119, 120, 121, 122, 65, 66, 67, 68, 69, 70, 71, 72, 73, 74, 75, 76, 77, 78, 79, 80, 81, 82, 83, 84, 85, 86, 87, 88, 89, 90, 95, 36]⟩, .string ⟨#[97, 98, 99, 100, 101, 102, 103, 104, 105, 106, 107, 108, 109, 110, 111, 112, 113, 114, 115, 116, 117, 118, 119, 120, 121, 122, 65, 66, 67, 68, 69, 70, 71, 72, 73, 74, 75, 76, 77, 78, 79, 80, 81, 82, 83, 84, 85, 86, 87, 88, 89, 90, 48, 49, 50, 51, 52, 53, 54, 55, 56, 57, 95, 36]⟩] 290)).alloc (.cells #[.pointer none, .slice none 0 0] 330) = W at hfr hbl k0 k1 hs2 ⊢
  clear hfr hsz
  rintro e w1 ⟨rfl, h1, hb1⟩
  have hbl1 := hbl.trans (hb1.mono (by omega))
  have c0 : w1.cell? ⟨w.heap.size, 0, none⟩ = _ := (hb1.cell (p := ⟨w.heap.size, 0, none⟩) (by simp)).trans k0
  have c1 : w1.cell? ⟨w.heap.size, 1, none⟩ = _ := (hb1.cell (p := ⟨w.heap.size, 1, none⟩) (by simp)).trans k1
  have hs3 := hb1.size
  rw [List.nil_append, one_of _ headL j0 rfl (by show j0 < 54; omega)] at h1
  have HB := Lib.hid h1
  clear h1 k0 k1 hb1 hbl
  go_wp2
  go_loopg [1] (i + 1) (fun g v wx => NmRel i w g v wx)
  case atStart =>
    refine ⟨q0, i, [headL.getD j0 0], rfl, rfl, ?_, by simp, by simp; omega, b3, HB.out, hbl1, by omega, c0, c1⟩
    obtain ⟨rfl, rfl⟩ := HI.out
    rfl
  case round =>
    obtain ⟨n, f, l, rfl, rfl, hl, hne, hll, hng, hB, hbw, hws, d0, d1⟩ := hrel
    have HL := Lib.hid hl
    have hlp : 0 < l.length := List.length_pos_iff.2 hne
    have HN := Lib.hid hne
    have HB2 := Lib.hid hB
    clear hl hne hB c0 c1
    by_cases h0 : n = 0
    · subst h0
      have hcs := fun h => Tryz.Builder_String (w.heap.size + 1) (w.heap.size + 1) l wr (Or.inr HB2.out) h
      go_wp2_with fail
      refine (hcs HN.out).mono ?_
      rintro e w2 ⟨rfl, hb2⟩
      go_wp2
      go_ret
      refine ⟨?_, hbw.trans (hb2.mono (by omega))⟩
      have := HL.out
      rw [nmT_zero, List.append_nil] at this
      rw [this]
      rfl
    · obtain ⟨f', rfl⟩ : ∃ f', f = f' + 1 := ⟨f - 1, by omega⟩
      obtain ⟨j1, hj1⟩ : ∃ j1 : Nat, (n - 1) % 64 = j1 := ⟨_, rfl⟩
      obtain ⟨q1, hq1⟩ : ∃ q1 : Nat, (n - 1) / 64 = q1 := ⟨_, rfl⟩
      have e1 : ((n : Int) - 1).tmod 64 = (j1 : Int) := by rw [Int.tmod_eq_emod_of_nonneg (by omega)]; omega
      have e2 : ((n : Int) - 1).tdiv 64 = (q1 : Int) := by rw [Int.tdiv_eq_ediv_of_nonneg (by omega)]; omega
      have g1 : (j1 : Int) < 64 := by omega
      have g2 : (j1 : Int) + 1 ≤ 64 := by omega
      have g3 : q1 ≤ f' := by omega
      have g4 : (q1 : Int) ≤ 1048576 := by omega
      have g5 : (0 : Int) < n := by omega
      have g6 : (n : Int) ≤ 1048576 := by omega
      have HL2 := Lib.hid (show l ++ [tailL.getD j1 0] ++ nmT f' q1 = nm i by
        rw [← HL.out, List.append_assoc, ← hj1, ← hq1]
        congr 1
        rw [nmT, if_neg h0]
        rfl)
      clear hj1 hq1 HL
      have hcw := fun s hs => writeString (w.heap.size + 1) (w.heap.size + 1) (Lib.byteCells l) s wr (Or.inr HB2.out) hs hws
      go_wp2_with fail
      refine (hcw _ ?_).mono ?_
      · rw [Lib.byteCells_length]; simp [ByteArray.size_extract]; omega
      rintro e w2 ⟨rfl, h2, hb2⟩
      have hbw2 := hbw.trans (hb2.mono (by omega))
      have x0 : w2.cell? ⟨w.heap.size, 0, none⟩ = _ := (hb2.cell (p := ⟨w.heap.size, 0, none⟩) (by simp)).trans d0
      have x1 : w2.cell? ⟨w.heap.size, 1, none⟩ = _ := (hb2.cell (p := ⟨w.heap.size, 1, none⟩) (by simp)).trans d1
      have hs4 := hb2.size
      rw [one_of _ tailL j1 rfl (by show j1 < 64; omega), ← Lib.byteCells_append] at h2
      have HB3 := Lib.hid h2
      clear h2 d0 d1 hb2 hcw
      go_wp2
      go_roundg (f' + 1)
      case measure => omega
      case rel => exact ⟨q1, f', l ++ [tailL.getD j1 0], by go_num, rfl, HL2.out, by simp, by simp; omega, g3, HB3.out, hbw2, by omega, x0, x1⟩
end Go.Proofs.YtghofdhhhbbaaaaGreatDoor.Use
