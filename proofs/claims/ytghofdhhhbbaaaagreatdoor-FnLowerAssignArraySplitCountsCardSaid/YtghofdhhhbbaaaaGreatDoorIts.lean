/- Items, made; uses. No condition. -/
import Derived.Test.YtghofdhhhbbaaaaGreatDoorIfm
import Derived.Test.YtghofdhhhbbaaaaGreatDoorSla
import Derived.Test.YtghofdhhhbbaaaaGreatDoorLoop
import Derived.Test.YtghofdhhhbbaaaaGreatDoorMini
import Derived.Test.YtghofdhhhbbaaaaGreatDoorAppL
import Derived.Test.YtghofdhhhbbaaaaGreatDoorApp
import Derived.Test.YtghofdhhhbbaaaaGreatDoorOwnK
import Derived.Test.YtghofdhhhbbaaaaGreatDoorOwn
import Derived.Test.YtghofdhhhbbaaaaGreatDoorDeepCells
import Derived.Test.YtghofdhhhbbaaaaGreatDoorRows
import Derived.Test.YtghofdhhhbbaaaaGreatDoorLive
namespace Go.Proofs.YtghofdhhhbbaaaaGreatDoor.Use
open Go.ChangeShapes Go.WideShapes Go.ChangeAt Go.RowKit Go.Sort Own
set_option linter.unusedVariables false
def exZ : Array Value := #[.nilIface, .int .i32 0]
def prZ : Array Value := #[.pointer none, .nilIface, .int .i32 0, .nilIface, .int .i32 0, .nilIface, .int .i32 0, .slice none 0 0, .int .i32 0, .int .i32 0, .int .u8 0, .int .u8 0]
theorem infoEx : (Tryz.prog.info? 29).map (fun i => (i.zero, i.size, i.bytes)) = some (some (.agg exZ), 2, 24) := by kernel_rfl
theorem infoPr : (Tryz.prog.info? 52).map (fun i => (i.zero, i.size, i.bytes)) = some (some (.agg prZ), 12, 120) := by kernel_rfl
/-- From a to n there are identifiers. -/
def ItA (l : List Value) (a n : Nat) : Prop := ∀ i, a ≤ i → i < n → ∃ b, l[i * 2]? = some (.iface 56 (.pointer (some ⟨b, 0, none⟩))) ∧ l[i * 2 + 1]? = some (.int .i32 0)
/-- m identifiers, an object, identifiers up to n. -/
structure ItP (l : List Value) (m ob n : Nat) : Prop where
  len : l.length = n * 2
  lo : ItA l 0 m
  a0 : l[m * 2]? = some (.iface 202 (.pointer (some ⟨ob, 0, none⟩)))
  a1 : l[m * 2 + 1]? = some (.int .i32 0)
  hi : ItA l (m + 1) n
theorem ItA.nil (l : List Value) (a : Nat) : ItA l a a := fun i h1 h2 => absurd h2 (by omega)
theorem ItA.snoc {l : List Value} {a n b : Nat} (h : ItA l a n) (hl : l.length = n * 2) : ItA (l ++ [.iface 56 (.pointer (some ⟨b, 0, none⟩)), .int .i32 0]) a (n + 1) := by
  intro i h1 h2
  by_cases e : i < n
  · obtain ⟨b', h3, h4⟩ := h i h1 e
    have l3 := (List.getElem?_eq_some_iff.1 h3).1
    have l4 := (List.getElem?_eq_some_iff.1 h4).1
    exact ⟨b', by rw [List.getElem?_append_left l3]; exact h3, by rw [List.getElem?_append_left l4]; exact h4⟩
  · obtain rfl : i = n := by omega
    exact ⟨b, by rw [List.getElem?_append_right (by omega), hl, Nat.sub_self]; rfl, by rw [List.getElem?_append_right (by omega), hl, show i * 2 + 1 - i * 2 = 1 by omega]; rfl⟩
theorem ItA.more {l l2 : List Value} {a n : Nat} (h : ItA l a n) : ItA (l ++ l2) a n := by
  intro i h1 h2
  obtain ⟨b', h3, h4⟩ := h i h1 h2
  have l3 := (List.getElem?_eq_some_iff.1 h3).1
  have l4 := (List.getElem?_eq_some_iff.1 h4).1
  exact ⟨b', by rw [List.getElem?_append_left l3]; exact h3, by rw [List.getElem?_append_left l4]; exact h4⟩
theorem len_snoc {l : List Value} {n : Nat} {u v : Value} (hl : l.length = n * 2) : (l ++ [u, v]).length = (n + 1) * 2 := by
  rw [List.length_append, hl]
  show n * 2 + 2 = _
  omega
theorem ItP.mk0 {l : List Value} {m ob : Nat} (hl : l.length = m * 2) (h : ItA l 0 m) : ItP (l ++ [.iface 202 (.pointer (some ⟨ob, 0, none⟩)), .int .i32 0]) m ob (m + 1) :=
  ⟨len_snoc hl, h.more, by rw [List.getElem?_append_right (by omega), hl, Nat.sub_self]; rfl, by rw [List.getElem?_append_right (by omega), hl, show m * 2 + 1 - m * 2 = 1 by omega]; rfl, ItA.nil _ _⟩
theorem ItP.snoc {l : List Value} {m ob n b : Nat} (h : ItP l m ob n) : ItP (l ++ [.iface 56 (.pointer (some ⟨b, 0, none⟩)), .int .i32 0]) m ob (n + 1) := by
  have l0 := (List.getElem?_eq_some_iff.1 h.a0).1
  have l1 := (List.getElem?_eq_some_iff.1 h.a1).1
  exact ⟨len_snoc h.len, h.lo.more, by rw [List.getElem?_append_left l0]; exact h.a0, by rw [List.getElem?_append_left l1]; exact h.a1, h.hi.snoc h.len⟩
theorem ItP.id {l : List Value} {m ob n i : Nat} (h : ItP l m ob n) (hne : ¬ i = m) (hi : i < n) : ∃ b, l[i * 2]? = some (.iface 56 (.pointer (some ⟨b, 0, none⟩))) ∧ l[i * 2 + 1]? = some (.int .i32 0) := by
  by_cases e : i < m
  · exact h.lo i (by omega) e
  · exact h.hi i (by omega) hi
/-- The identifiers behind the object, alone. -/
theorem ItP.drop {l : List Value} {m ob n : Nat} (h : ItP l m ob (m + 1 + n)) : ItA (l.drop ((m + 1) * 2)) 0 n ∧ (l.drop ((m + 1) * 2)).length = n * 2 := by
  refine ⟨fun i _ h2 => ?_, by rw [List.length_drop, h.len]; omega⟩
  obtain ⟨b, h3, h4⟩ := h.hi (m + 1 + i) (by omega) (by omega)
  refine ⟨b, ?_, ?_⟩
  · rw [List.getElem?_drop, show (m + 1) * 2 + i * 2 = (m + 1 + i) * 2 by omega]
    exact h3
  · rw [List.getElem?_drop, show (m + 1) * 2 + (i * 2 + 1) = (m + 1 + i) * 2 + 1 by omega]
    exact h4
theorem ItA.one {l : List Value} {n : Nat} (h : ItA l 0 n) (hl : l.length = n * 2) : ∀ u ∈ l, u.oneCell' = true := by
  intro u hu
  obtain ⟨j, hj⟩ := List.getElem?_of_mem hu
  have hlt := (List.getElem?_eq_some_iff.1 hj).1
  obtain ⟨b, h0, h1⟩ := h (j / 2) (by omega) (by omega)
  by_cases e : j % 2 = 0
  · rw [show j / 2 * 2 = j by omega, hj] at h0
    cases h0
    rfl
  · rw [show j / 2 * 2 + 1 = j by omega, hj] at h1
    cases h1
    rfl
theorem makeEx (n : Nat) (hn : n ≤ 1048576) (w : World) : (Instr.makeSlice 45 (.int .i64 0) (.int .i64 (n : Int))).run Tryz.prog w = .ok (.slice (some ⟨w.heap.size, 0, none⟩) 0 n) (w.alloc (.cells (full exZ [] n) 29)) := by
  obtain ⟨i, hi, z1, z2, z3⟩ := info_parts infoEx
  exact run_mk_full w 45 29 i (.agg exZ) 2 24 Tryz.underlying45 hi z1 z2 z3 rfl .i64 .i64 0 n (by omega) (by omega) (by omega)
theorem makeEx3 (a b : Nat) (hn : a + b + 1 ≤ 1048576) (w : World) : (Instr.makeSlice 45 (.int .i64 0) (.int .i64 ((a : Int) + (b : Int) + 1))).run Tryz.prog w = .ok (.slice (some ⟨w.heap.size, 0, none⟩) 0 (a + b + 1)) (w.alloc (.cells (full exZ [] (a + b + 1)) 29)) := by
  rw [show (a : Int) + (b : Int) + 1 = ((a + b + 1 : Nat) : Int) by omega]
  exact makeEx _ hn w
theorem makePr (n : Nat) (hn : n ≤ 1048576) (w : World) : (Instr.makeSlice 46 (.int .i64 0) (.int .i64 (n : Int))).run Tryz.prog w = .ok (.slice (some ⟨w.heap.size, 0, none⟩) 0 n) (w.alloc (.cells (full prZ [] n) 52)) := by
  obtain ⟨i, hi, z1, z2, z3⟩ := info_parts infoPr
  exact run_mk_full w 46 52 i (.agg prZ) 12 120 Tryz.underlying46 hi z1 z2 z3 rfl .i64 .i64 0 n (by omega) (by omega) (by omega)
theorem makePr1 (w : World) : (Instr.makeSlice 46 (.int .i64 0) (.int .i64 1)).run Tryz.prog w = .ok (.slice (some ⟨w.heap.size, 0, none⟩) 0 1) (w.alloc (.cells (full prZ [] 1) 52)) := makePr 1 (by decide) w
/-- Uses stay small. -/
def UcB (st : List Sy) (k : Nat) : Prop := ∀ (i : Nat) (s : Sy), st[i]? = some s → s.uc ≤ k
theorem UcB.use {st : List Sy} {k i : Nat} (h : UcB st k) (hi : i < st.length) (hk : k < 4294967295) : ∃ s, st[i]? = some s ∧ s.uc < 4294967295 :=
  ⟨st[i], List.getElem?_eq_getElem hi, Nat.lt_of_le_of_lt (h i _ (List.getElem?_eq_getElem hi)) hk⟩
theorem UcB.mono {st : List Sy} {k k' : Nat} (h : UcB st k) (hk : k ≤ k') : UcB st k' := fun i s hs => Nat.le_trans (h i s hs) hk
theorem UcB.snoc {st : List Sy} {k : Nat} {nm : ByteArray} {kd : Int} (h : UcB st k) : UcB (st ++ [syk nm kd]) k := by
  intro i s hs
  rw [List.getElem?_append] at hs
  split at hs
  · exact h i s hs
  · rw [List.getElem?_singleton] at hs
    split at hs
    · cases hs
      exact Nat.zero_le _
    · cases hs
theorem UcB.bump : ∀ {st : List Sy} {k : Nat} (j : Nat), UcB st k → UcB (bump st j) (k + 1)
  | [], k, j, h => fun i s hs => by simp [Use.bump] at hs
  | x :: l, k, 0, h => fun i s hs => by
    cases i with
    | zero =>
      have := h 0 x rfl
      simp [Use.bump] at hs
      subst hs
      show x.uc + 1 ≤ k + 1
      omega
    | succ i =>
      have := h (i + 1) s hs
      omega
  | x :: l, k, j + 1, h => fun i s hs => by
    cases i with
    | zero =>
      have := h 0 s hs
      omega
    | succ i => exact UcB.bump j (st := l) (k := k) (fun i s hs => h (i + 1) s hs) i s hs

end Go.Proofs.YtghofdhhhbbaaaaGreatDoor.Use
