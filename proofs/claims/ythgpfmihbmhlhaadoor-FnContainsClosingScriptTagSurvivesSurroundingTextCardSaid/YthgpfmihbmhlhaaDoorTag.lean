/- Closing script tags in lists of bytes: plain facts, no program. No condition. -/
namespace Go.Proofs.YthgpfmihbmhlhaaDoor.Tag
/-- A byte as a small letter. -/
def low (c : UInt8) : UInt8 := if 65 ≤ c.toNat ∧ c.toNat ≤ 90 then c + 32 else c
def scr : List UInt8 := [115, 99, 114, 105, 112, 116]
/-- The list opens with 'script' in letters of any case. -/
def scriptAt (l : List UInt8) : Bool := (l.take 6).map low == scr
/-- The list opens with '</'. -/
def openAt (l : List UInt8) : Bool := l.take 2 == [60, 47]
def tagAt (l : List UInt8) : Bool := openAt l && scriptAt (l.drop 2)
def hasTag : List UInt8 → Bool
  | [] => false
  | c :: l => tagAt (c :: l) || hasTag l
theorem hasTag_iff (l : List UInt8) : hasTag l = true ↔ ∃ i, tagAt (l.drop i) = true := by
  induction l with
  | nil => simp [hasTag, tagAt, openAt]
  | cons c l ih =>
    simp only [hasTag, Bool.or_eq_true, ih]
    constructor
    · rintro (h | ⟨i, h⟩)
      · exact ⟨0, h⟩
      · exact ⟨i + 1, h⟩
    · rintro ⟨i, h⟩
      cases i with
      | zero => exact Or.inl h
      | succ i => exact Or.inr ⟨i, h⟩
theorem hasTag_drop_none (l : List UInt8) (h : ∀ j, openAt (l.drop j) = false) : hasTag l = false := by
  rw [← Bool.not_eq_true, hasTag_iff]
  rintro ⟨i, hi⟩
  simp only [tagAt, Bool.and_eq_true] at hi
  rw [h i] at hi
  cases hi.1
theorem open_ne {l : List UInt8} (h : openAt l = true) : openAt (l.drop 1) = false := by
  match l, h with
  | [], h => simp [openAt] at h
  | [a], h => simp [openAt] at h
  | a :: b :: l, h =>
    simp only [openAt, List.take_succ_cons, List.take_zero, beq_iff_eq, List.cons.injEq, and_true] at h
    obtain ⟨rfl, rfl⟩ := h
    cases l <;> simp [openAt]
/-- The first '</' is no tag: the tags are those behind it. -/
theorem hasTag_step (l : List UInt8) (i : Nat) (hi : openAt (l.drop i) = true) (hb : ∀ j, j < i → openAt (l.drop j) = false) (hn : scriptAt (l.drop (i + 2)) = false) :
    hasTag l = hasTag (l.drop (i + 2)) := by
  rw [Bool.eq_iff_iff, hasTag_iff, hasTag_iff]
  constructor
  · rintro ⟨j, hj⟩
    have hj' := hj
    simp only [tagAt, Bool.and_eq_true] at hj'
    by_cases h1 : j < i
    · rw [hb j h1] at hj'; cases hj'.1
    by_cases h2 : j = i
    · subst h2
      rw [List.drop_drop] at hj'
      rw [hn] at hj'; cases hj'.2
    by_cases h3 : j = i + 1
    · subst h3
      have := open_ne hi
      rw [List.drop_drop] at this
      rw [this] at hj'; cases hj'.1
    exact ⟨j - (i + 2), by rw [List.drop_drop, show i + 2 + (j - (i + 2)) = j by omega]; exact hj⟩
  · rintro ⟨j, hj⟩
    exact ⟨i + 2 + j, by rw [List.drop_drop] at hj; exact hj⟩
theorem hasTag_at (l : List UInt8) (i : Nat) (hi : openAt (l.drop i) = true) (hs : scriptAt (l.drop (i + 2)) = true) : hasTag l = true := by
  rw [hasTag_iff]
  exact ⟨i, by simp only [tagAt, Bool.and_eq_true, List.drop_drop]; exact ⟨hi, hs⟩⟩
theorem openAt_take {l : List UInt8} (h : openAt l = true) (r : List UInt8) : openAt (l ++ r) = true := by
  match l, h with
  | [], h => simp [openAt] at h
  | [a], h => simp [openAt] at h
  | a :: b :: l, h => simpa [openAt] using h
theorem scriptAt_len {l : List UInt8} (h : scriptAt l = true) : 6 ≤ l.length := by
  simp only [scriptAt, beq_iff_eq] at h
  have := congrArg List.length h
  simp [scr] at this
  omega
theorem scriptAt_append {l : List UInt8} (h : scriptAt l = true) (r : List UInt8) : scriptAt (l ++ r) = true := by
  have hl := scriptAt_len h
  simp only [scriptAt] at h ⊢
  rw [List.take_append_of_le_length (by omega)]
  exact h
theorem openAt_len {l : List UInt8} (h : openAt l = true) : 2 ≤ l.length := by
  match l, h with
  | [], h => simp [openAt] at h
  | [a], h => simp [openAt] at h
  | a :: b :: l, h => simp
theorem hasTag_around {b : List UInt8} (h : hasTag b = true) (a c : List UInt8) : hasTag (a ++ b ++ c) = true := by
  obtain ⟨i, hi⟩ := (hasTag_iff b).1 h
  simp only [tagAt, Bool.and_eq_true] at hi
  have hl := openAt_len hi.1
  have hl2 := scriptAt_len hi.2
  simp only [List.length_drop] at hl hl2
  refine (hasTag_iff _).2 ⟨a.length + i, ?_⟩
  have e : (a ++ b ++ c).drop (a.length + i) = b.drop i ++ c := by
    rw [List.append_assoc, ← List.drop_drop, List.drop_left, List.drop_append_of_le_length (by omega)]
  rw [e]
  simp only [tagAt, Bool.and_eq_true]
  refine ⟨openAt_take hi.1 c, ?_⟩
  rw [List.drop_append_of_le_length (by simp; omega)]
  exact scriptAt_append hi.2 c
end Go.Proofs.YthgpfmihbmhlhaaDoor.Tag
