/- A map of uses, its entries a function of what was recorded: a look-up, a store. No condition. -/
import Derived.Test.YtikopplofkemlaaDoorMaps
import Derived.Test.YtikopplofkemlaaDoorRows
import Derived.WalkKit
namespace Go.Proofs.YtikopplofkemlaaDoor.Use
open Go.RowKit
set_option linter.unusedVariables false
/-- A use's key. -/
def ueK (a b : Int) : Value := .agg #[.int .u32 a, .int .u32 b]
def ueE : List (Int × Int × Int) → Nat → List MapEntry
  | [], _ => []
  | u :: l, i => ⟨ueK u.1 u.2.1, .agg #[.int .u32 u.2.2], i⟩ :: ueE l (i + 1)
def uA (l : List (Int × Int × Int)) : Array MapEntry := (ueE l 0).toArray
def uN (l : List (Int × Int × Int)) : Nat := l.length
def uC : List (Int × Int × Int) → Int → Int → Int
  | [], _, _ => 0
  | u :: l, a, b => if u.1 = a ∧ u.2.1 = b then u.2.2 else uC l a b
def ubump : List (Int × Int × Int) → Int → Int → List (Int × Int × Int)
  | [], a, b => [(a, b, ((0 + 1) % 4294967296))]
  | u :: l, a, b => if u.1 = a ∧ u.2.1 = b then (u.1, u.2.1, ((u.2.2 + 1) % 4294967296)) :: l else u :: ubump l a b
def uF : List (Int × Int × Int) → Int → Int → Nat → Option (Nat × Value)
  | [], _, _, _ => none
  | u :: l, a, b, i => if u.1 = a ∧ u.2.1 = b then some (i, .agg #[.int .u32 u.2.2]) else uF l a b (i + 1)
section
variable (w : World)
theorem run_equal_ue (a b c d : Int) : (Op.equal 31 (ueK a b) (ueK c d)).run Tryd.prog w = .ok (decide (c = a ∧ d = b)) w := by
  show (Op.equalIn 10000 31 (.agg _) (.agg _)).run _ w = _
  simp [go_sem]
  by_cases h1 : a = c
  · by_cases h2 : b = d
    · simp [h1, h2]
    · simp [h1, h2, Ne.symm h2]
  · simp [h1, Ne.symm h1]
theorem run_check_u32 (e : Bool) (a : Int) (d : Nat) : (Instr.checkKey e (d + 1) 29 (.int .u32 a)).run Tryd.prog w = .ok () w := by
  have h := Tryd.underlying29
  simp [Instr.checkKey, run_underlying h]
theorem run_part_u32 (xs : Array Value) (o : Nat) (v : Value) (h : xs[o]? = some v) : (part 29 xs o).run Tryd.prog w = .ok v w := by
  simp [go_sem, part, h]
theorem run_check_ue2 (e : Bool) (a b : Int) (d : Nat) : (Instr.checkKey e (d + 2) 31 (ueK a b)).run Tryd.prog w = .ok () w := by
  have h := Tryd.underlying31
  have p0 := fun w => run_part_u32 w #[Value.int IntKind.u32 a, Value.int IntKind.u32 b] 0 _ rfl
  have p1 := fun w => run_part_u32 w #[Value.int IntKind.u32 a, Value.int IntKind.u32 b] 1 _ rfl
  unfold ueK
  rw [Instr.checkKey]
  simp [run_underlying h, p0, p1, run_check_u32]
theorem run_check_ue (e : Bool) (a b : Int) : (Instr.checkKey e 10000 31 (ueK a b)).run Tryd.prog w = .ok () w := run_check_ue2 w e a b 9998
theorem run_asking_ue (a b : Int) : ∀ (l : List (Int × Int × Int)) (j i : Nat), (Instr.findAsking 31 (ueK a b) (ueE l j) i).run Tryd.prog w = .ok (uF l a b i) w := by
  intro l
  induction l with
  | nil => intro j i; simp [ueE, Instr.findAsking, uF]
  | cons u l ih =>
    intro j i
    simp [ueE, Instr.findAsking, uF, run_equal_ue, ih]
    by_cases h : u.1 = a ∧ u.2.1 = b
    · simp [h]
    · rw [if_neg h]
      by_cases h1 : u.1 = a
      · have h2 : ¬ u.2.1 = b := fun e => h ⟨h1, e⟩
        simp [h1, h2]
      · simp [h1]
theorem run_find_ue (a b : Int) (l : List (Int × Int × Int)) : (Instr.findKey 31 (ueK a b) (uA l).toList).run Tryd.prog w = .ok (uF l a b 0) w := by
  have h := Tryd.underlying31
  unfold uA
  cases l with
  | nil => simp [ueE, Instr.findKey, run_underlying h, Instr.findNow, uF]
  | cons u l =>
    have := run_asking_ue w a b (u :: l) 0 0
    simp [Instr.findKey, run_underlying h]
    rw [show Instr.findNow _ (ueK a b) (ueE (u :: l) 0) 0 = none from rfl]
    exact this
theorem uF_some : ∀ (l : List (Int × Int × Int)) (a b : Int) (i q : Nat) (v : Value), uF l a b i = some (q, v) → v = .agg #[.int .u32 (uC l a b)]
  | [], _, _, _, _, _, h => by simp [uF] at h
  | u :: l, a, b, i, q, v, h => by
    unfold uF at h
    unfold uC
    split at h
    · rename_i e; rw [if_pos e]; simp at h; exact h.2.symm
    · rename_i e; rw [if_neg e]; exact uF_some l a b _ q v h
theorem uF_none : ∀ (l : List (Int × Int × Int)) (a b : Int) (i : Nat), uF l a b i = none → uC l a b = 0 ∧ (∀ j, ueE (ubump l a b) j = ueE l j ++ [⟨ueK a b, .agg #[.int .u32 ((0 + 1) % 4294967296)], j + l.length⟩]) ∧ (ubump l a b).length = l.length + 1
  | [], _, _, _, _ => ⟨rfl, fun _ => rfl, rfl⟩
  | u :: l, a, b, i, h => by
    unfold uF at h
    split at h
    · cases h
    · rename_i e
      obtain ⟨h1, h2, h3⟩ := uF_none l a b _ h
      refine ⟨by unfold uC; rw [if_neg e]; exact h1, fun j => ?_, ?_⟩
      · unfold ubump; rw [if_neg e]; simp only [ueE, h2, List.cons_append, List.length_cons]; rw [show j + 1 + l.length = j + (l.length + 1) by omega]
      · unfold ubump; rw [if_neg e]; simp [h3]
theorem ueE_at : ∀ (l : List (Int × Int × Int)) (j i : Nat) (u : Int × Int × Int), l[i]? = some u → (ueE l j)[i]? = some ⟨ueK u.1 u.2.1, .agg #[.int .u32 u.2.2], j + i⟩
  | [], _, _, _, h => by simp at h
  | u :: l, j, 0, v, h => by simp at h; subst h; rfl
  | u :: l, j, i + 1, v, h => by
    have := ueE_at l (j + 1) i v (by simpa using h)
    simp only [ueE, List.getElem?_cons_succ, this]
    rw [show j + 1 + i = j + (i + 1) by omega]
theorem uF_hit : ∀ (l : List (Int × Int × Int)) (a b : Int) (i q : Nat) (v : Value), uF l a b i = some (q, v) → ∃ p c, q = i + p ∧ l[p]? = some (a, b, c) ∧ ∀ j, ueE (ubump l a b) j = (ueE l j).modify p (fun e => { e with val := .agg #[.int .u32 ((c + 1) % 4294967296)] }) ∧ uC l a b = c ∧ (ubump l a b).length = l.length
  | [], _, _, _, _, _, h => by simp [uF] at h
  | u :: l, a, b, i, q, v, h => by
    unfold uF at h
    split at h
    · rename_i e
      obtain ⟨rfl, rfl⟩ := e
      simp at h
      refine ⟨0, u.2.2, h.1.symm, rfl, fun j => ⟨?_, ?_, ?_⟩⟩
      · simp [ubump, ueE]
      · simp [uC]
      · simp [ubump]
    · rename_i e
      obtain ⟨p, c, h1, h2, h3⟩ := uF_hit l a b _ q v h
      refine ⟨p + 1, c, by omega, by simpa using h2, fun j => ?_⟩
      obtain ⟨h4, h5, h6⟩ := h3 (j + 1)
      refine ⟨?_, ?_, ?_⟩
      · unfold ubump; rw [if_neg e]; simp only [ueE, h4]; rfl
      · unfold uC; rw [if_neg e]; exact h5
      · unfold ubump; rw [if_neg e]; simp [h6]
theorem run_lookup_ue {t : TypeId} {e : TypeId} (hu : Tryd.prog.underlying t = some (.map 31 e)) {r : Nat} {l : List (Int × Int × Int)} (h : Base.MapAt w r (uA l) (uN l)) (a b : Int) (hz : (zeroValue e).run Tryd.prog w = .ok (.agg #[.int .u32 0]) w) :
    (Instr.lookup t (.map (some r)) (ueK a b) false).run Tryd.prog w = .ok (.agg #[.int .u32 (uC l a b)]) w := by
  have h' : w.heap[r]? = some (.map (uA l) (uN l)) := h
  simp only [Instr.lookup, Sem.run_bind, run_underlying hu, Result.andThen_ok]
  simp [Base.run_getObj_map w h, run_check_ue w _ a b, run_find_ue w]
  cases hf : uF l a b 0 with
  | none => simp [hz, (uF_none l a b 0 hf).1]
  | some x => obtain ⟨q, v⟩ := x; simp [uF_some l a b 0 q v hf]
theorem run_keyStays (k : Value) (hk : Instr.sameBits 10000 k k = true) : (Instr.keyThatStays k k).run Tryd.prog w = .ok k w := by
  simp [Instr.keyThatStays, hk]
theorem sameBits_ue (a b : Int) : Instr.sameBits 10000 (ueK a b) (ueK a b) = true := by
  show (Instr.sameBits (9999 + 1) (.agg _) (.agg _)) = true
  rw [Instr.sameBits]
  simp [Instr.sameBits]
theorem run_update_ue {t : TypeId} {e : TypeId} (hu : Tryd.prog.underlying t = some (.map 31 e)) {r : Nat} {l : List (Int × Int × Int)} (h : Base.MapAt w r (uA l) (uN l)) (a b : Int) :
    (Instr.mapUpdate t (.map (some r)) (ueK a b) (.agg #[.int .u32 ((uC l a b + 1) % 4294967296)])).run Tryd.prog w = .ok () (Base.setMap w r (uA (ubump l a b)) (uN (ubump l a b))) := by
  have h' : w.heap[r]? = some (.map (uA l) (uN l)) := h
  simp only [Instr.mapUpdate, Sem.run_bind, run_underlying hu, Result.andThen_ok]
  simp [Base.run_getObj_map w h, run_check_ue w _ a b, run_find_ue w]
  cases hf : uF l a b 0 with
  | none =>
    obtain ⟨h1, h2, h3⟩ := uF_none l a b 0 hf
    simp only [h1]
    rw [Base.run_setObj_map w h]
    have e1 : uA (ubump l a b) = (uA l).push ⟨ueK a b, .agg #[.int .u32 ((0 + 1) % 4294967296)], uN l⟩ := by
      unfold uA uN; rw [h2 0]; simp
    have e2 : uN (ubump l a b) = uN l + 1 := h3
    rw [e1, e2]
  | some x =>
    obtain ⟨q, v⟩ := x
    obtain ⟨p, c, h1, h2, h3⟩ := uF_hit l a b 0 q v hf
    obtain ⟨h4, h5, h6⟩ := h3 0
    obtain rfl : q = p := by omega
    have h7 := ueE_at l 0 q _ h2
    have hk : ((uA l)[q]?.map (·.key)).getD (ueK a b) = ueK a b := by
      unfold uA
      simp [h7]
    simp only [hk, Sem.run_bind, run_keyStays w _ (sameBits_ue a b), Result.andThen_ok]
    rw [Base.run_setObj_map w h]
    have e1 : uA (ubump l a b) = (uA l).modify q (fun e => { e with key := ueK a b, val := .agg #[.int .u32 ((uC l a b + 1) % 4294967296)] }) := by
      unfold uA
      rw [h4, h5]
      apply Array.ext'
      simp
      apply List.ext_getElem?
      intro i
      simp only [List.getElem?_modify]
      by_cases hi : q = i
      · subst hi; simp [h7]
      · simp [hi]
    have e2 : uN (ubump l a b) = uN l := h6
    rw [e1, e2]
end
end Go.Proofs.YtikopplofkemlaaDoor.Use
