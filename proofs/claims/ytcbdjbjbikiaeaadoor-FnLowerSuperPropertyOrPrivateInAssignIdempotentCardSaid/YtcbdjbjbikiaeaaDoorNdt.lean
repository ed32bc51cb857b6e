/- The items of an array pattern, told by number. No condition. -/
import Derived.Test.YtcbdjbjbikiaeaaDoorItm
import Derived.Test.YtcbdjbjbikiaeaaDoorOwn
import Derived.Test.YtcbdjbjbikiaeaaDoorOwnK
import Derived.Test.YtcbdjbjbikiaeaaDoorLoop
import Derived.Test.YtcbdjbjbikiaeaaDoorApp
import Derived.Test.YtcbdjbjbikiaeaaDoorDeepCells
import Derived.Test.YtcbdjbjbikiaeaaDoorRows
import Derived.Test.YtcbdjbjbikiaeaaDoorDead
namespace Go.Proofs.YtcbdjbjbikiaeaaDoor.Use
open Go.ChangeShapes Go.WideShapes Go.ChangeAt Go.RowKit Go.Sort Own
set_option linter.unusedVariables false
/-- The items, told by number: their kinds, nodes, inner dots, properties. -/
structure Dm where
  kd : Nat → Nat
  nd : Nat → Nat
  inn : Nat → Nat
  pp : Nat → Nat
def isT (D : Dm) (i : Nat) : Prop := D.kd i = 3 ∨ D.kd i = 5
def tn (D : Dm) (i : Nat) : Nat := if D.kd i = 3 then D.nd i else D.pp i
/-- What lowering turns: a spread, or a property. -/
def tnO (D : Dm) (nw : Nat → Nat) (b : Bool) (i : Nat) : Obj := if D.kd i = 3 then .cells #[.iface 40 (.pointer (some ⟨(if b then nw i else D.inn i), 0, none⟩)), .int .i32 (2 * (i : Int))] 234 (0, 0) else .cells #[.pointer none, .nilIface, .int .i32 0, .iface 40 (.pointer (some ⟨(if b then nw i else D.inn i), 0, none⟩)), .int .i32 (2 * (i : Int)), .nilIface, .int .i32 0, .slice none 0 0, .int .i32 0, .int .i32 0, .int .u8 0, .int .u8 0] 243 (0, 0)
def NodT (X : Nat → Obj → Prop) (D : Dm) (nw : Nat → Nat) (k m : Nat) : Nat → Obj → Prop := fun b o => X b o ∨ ∃ i, i < m ∧ isT D i ∧ b = tn D i ∧ o = tnO D nw (decide (i < k)) i
def SepT (X : Nat → Obj → Prop) (D : Dm) (m : Nat) : Prop := ∀ b o, X b o → ∀ i, i < m → isT D i → b ≠ tn D i
def InjT (D : Dm) (m : Nat) : Prop := ∀ i j, i < m → j < m → isT D i → isT D j → tn D i = tn D j → i = j
def addX (X : Nat → Obj → Prop) (a : Nat) (p : Obj) : Nat → Obj → Prop := fun b o => X b o ∨ (b = a ∧ o = p)
theorem addX_l {X : Nat → Obj → Prop} {a : Nat} {p : Obj} : ∀ b o, X b o → addX X a p b o := fun _ _ h => Or.inl h
theorem addX_r {X : Nat → Obj → Prop} {a : Nat} {p : Obj} : addX X a p a p := Or.inr ⟨rfl, rfl⟩
section
variable {w0 w : World} {L : List Rw} {X : Nat → Obj → Prop} {D D' : Dm} {nw nw' : Nat → Nat} {k m : Nat}
theorem NodT.addS {a : Nat} {p : Obj} (h : Own w0 w ((a, p) :: L) (NodT X D nw k m)) (hs : SepT X D m) : Own w0 w L (NodT (addX X a p) D nw k m) ∧ SepT (addX X a p) D m := by
  refine ⟨h.give ?_, ?_⟩
  · rintro b o ((hx | hx) | hx)
    · exact Or.inl (Or.inl hx)
    · exact Or.inr hx
    · exact Or.inl (Or.inr hx)
  · rintro b o (hx | ⟨rfl, rfl⟩) i hi ht
    · exact hs b o hx i hi ht
    · have h9 := (h.frame (tn D i) _ (Or.inr ⟨i, hi, ht, rfl, rfl⟩)).2.2 _ List.mem_cons_self
      exact h9
/-- One more item, told by D' as by D before. -/
def SameTo (D D' : Dm) (i : Nat) : Prop := ∀ j, j < i → D'.kd j = D.kd j ∧ D'.nd j = D.nd j ∧ D'.inn j = D.inn j ∧ D'.pp j = D.pp j
theorem SameTo.tn (h : SameTo D D' k) {j : Nat} (hj : j < k) : tn D' j = tn D j := by
  obtain ⟨h1, h2, h3, h4⟩ := h j hj
  unfold Use.tn
  rw [h1, h2, h4]
theorem SameTo.isT (h : SameTo D D' k) {j : Nat} (hj : j < k) : isT D' j ↔ isT D j := by
  obtain ⟨h1, h2, h3, h4⟩ := h j hj
  unfold Use.isT
  rw [h1]
theorem SameTo.tnO (h : SameTo D D' k) {j : Nat} (hj : j < k) (b : Bool) : tnO D' nw b j = tnO D nw b j := by
  obtain ⟨h1, h2, h3, h4⟩ := h j hj
  unfold Use.tnO
  rw [h1, h3]
theorem NodT.skip (hd : SameTo D D' k) (ht : ¬ isT D' k) (h : Own w0 w L (NodT X D nw 0 k)) (hs : SepT X D k) (hi : InjT D k) : Own w0 w L (NodT X D' nw 0 (k + 1)) ∧ SepT X D' (k + 1) ∧ InjT D' (k + 1) := by
  have hne : ∀ i, i < k + 1 → Use.isT D' i → i < k := fun i hi h9 => by
    by_cases e : i = k
    · subst e; exact absurd h9 ht
    · omega
  refine ⟨h.weaken ?_, ?_, ?_⟩
  · rintro b o (hx | ⟨i, hi9, h1, h2, h3⟩)
    · exact Or.inl hx
    · have hik := hne i hi9 h1
      exact Or.inr ⟨i, hik, (hd.isT hik).1 h1, by rw [h2, hd.tn hik], by rw [h3, hd.tnO hik]⟩
  · intro b o hx i hi9 h1
    have hik := hne i hi9 h1
    rw [hd.tn hik]
    exact hs b o hx i hik ((hd.isT hik).1 h1)
  · intro i j hi9 hj9 h1 h2 e
    have hik := hne i hi9 h1
    have hjk := hne j hj9 h2
    rw [hd.tn hik, hd.tn hjk] at e
    exact hi i j hik hjk ((hd.isT hik).1 h1) ((hd.isT hjk).1 h2) e
theorem NodT.addT {a : Nat} {p : Obj} (hd : SameTo D D' k) (ha : a = tn D' k) (hp : p = tnO D' nw false k) (h : Own w0 w ((a, p) :: L) (NodT X D nw 0 k)) (hs : SepT X D k) (hi : InjT D k) : Own w0 w L (NodT X D' nw 0 (k + 1)) ∧ SepT X D' (k + 1) ∧ InjT D' (k + 1) := by
  have hfX : ∀ b o, X b o → b ≠ a := fun b o hx => fun e => (h.frame b o (Or.inl hx)).2.2 _ List.mem_cons_self e.symm
  have hfT : ∀ i, i < k → Use.isT D i → tn D i ≠ a := fun i hi9 h1 => fun e => (h.frame (tn D i) _ (Or.inr ⟨i, hi9, h1, rfl, rfl⟩)).2.2 _ List.mem_cons_self e.symm
  refine ⟨h.give ?_, ?_, ?_⟩
  · rintro b o (hx | ⟨i, hi9, h1, h2, h3⟩)
    · exact Or.inl (Or.inl hx)
    · by_cases e : i = k
      · subst e
        refine Or.inr ⟨by rw [h2, ha], ?_⟩
        rw [h3, hp]
        rfl
      · have hik : i < k := by omega
        exact Or.inl (Or.inr ⟨i, hik, (hd.isT hik).1 h1, by rw [h2, hd.tn hik], by rw [h3, hd.tnO hik]⟩)
  · intro b o hx i hi9 h1
    by_cases e : i = k
    · subst e
      rw [← ha]
      exact hfX b o hx
    · have hik : i < k := by omega
      rw [hd.tn hik]
      exact hs b o hx i hik ((hd.isT hik).1 h1)
  · intro i j hi9 hj9 h1 h2 e
    by_cases ei : i = k
    · by_cases ej : j = k
      · omega
      · have hjk : j < k := by omega
        subst ei
        rw [← ha, hd.tn hjk] at e
        exact absurd e.symm (hfT j hjk ((hd.isT hjk).1 h2))
    · have hik : i < k := by omega
      by_cases ej : j = k
      · subst ej
        rw [← ha, hd.tn hik] at e
        exact absurd e (hfT i hik ((hd.isT hik).1 h1))
      · have hjk : j < k := by omega
        rw [hd.tn hik, hd.tn hjk] at e
        exact hi i j hik hjk ((hd.isT hik).1 h1) ((hd.isT hjk).1 h2) e
def NodTH (X : Nat → Obj → Prop) (D : Dm) (nw : Nat → Nat) (k m : Nat) : Nat → Obj → Prop := fun b o => NodT X D nw k m b o ∧ b ≠ tn D k
theorem NodT.take (h : Own w0 w L (NodT X D nw k m)) (hk : k < m) (ht : isT D k) : Own w0 w ((tn D k, tnO D nw false k) :: L) (NodTH X D nw k m) := by
  have h9 := h.take (b := tn D k) (o := tnO D nw (decide (k < k)) k) (Or.inr ⟨k, hk, ht, rfl, rfl⟩)
  rw [show decide (k < k) = false from by simp] at h9
  exact h9
def updN (nw : Nat → Nat) (k a : Nat) : Nat → Nat := fun j => if j = k then a else nw j
theorem tnO_upd {i a : Nat} (h : i ≠ k) (b : Bool) : tnO D (updN nw k a) b i = tnO D nw b i := by
  unfold tnO updN
  rw [if_neg h]
theorem NodT.give {a : Nat} {p : Obj} (hp : p = tnO D (updN nw k a) true k) (h : Own w0 w ((tn D k, p) :: L) (NodTH X D nw k m)) (hk : k < m) (ht : isT D k) (hs : SepT X D m) (hi : InjT D m) : Own w0 w L (NodT X D (updN nw k a) (k + 1) m) := by
  refine h.give ?_
  rintro b o (hx | ⟨i, hi9, h1, h2, h3⟩)
  · exact Or.inl ⟨Or.inl hx, hs b o hx k hk ht⟩
  · by_cases e : i = k
    · subst e
      refine Or.inr ⟨h2, ?_⟩
      rw [h3, hp, show decide (i < i + 1) = true from by simp]
    · refine Or.inl ⟨Or.inr ⟨i, hi9, h1, h2, ?_⟩, fun e9 => e (hi i k hi9 hk h1 ht (h2 ▸ e9))⟩
      rw [h3, tnO_upd e]
      by_cases e2 : i < k
      · rw [decide_eq_true e2, decide_eq_true (show i < k + 1 by omega)]
      · rw [decide_eq_false e2, decide_eq_false (show ¬ i < k + 1 by omega)]
theorem NodT.pass (a : Nat) (ht : ¬ isT D k) (h : Own w0 w L (NodT X D nw k m)) : Own w0 w L (NodT X D (updN nw k a) (k + 1) m) := by
  refine h.weaken ?_
  rintro b o (hx | ⟨i, hi9, h1, h2, h3⟩)
  · exact Or.inl hx
  · have e : i ≠ k := fun e => ht (e ▸ h1)
    refine Or.inr ⟨i, hi9, h1, h2, ?_⟩
    rw [h3, tnO_upd e]
    by_cases e2 : i < k
    · rw [decide_eq_true e2, decide_eq_true (show i < k + 1 by omega)]
    · rw [decide_eq_false e2, decide_eq_false (show ¬ i < k + 1 by omega)]
end
/-- The nodes of an item that lowering only reads, raw. -/
def RawI (X : Nat → Obj → Prop) (D : Dm) (nm : ByteArray) (i : Nat) : Prop :=
  (D.kd i = 0 ∧ ∃ kx, X (D.nd i) (.cells #[.iface 244 (.pointer (some ⟨kx, 0, none⟩)), .int .i32 (2 * (i : Int)), .string nm, .int .i32 (2 * (i : Int) + 1), .int .u8 0, .bool false, .bool false, .bool false] 44 (0, 0))) ∨ (D.kd i = 1 ∧ ∃ kx ib, X (D.nd i) (.cells #[.iface 244 (.pointer (some ⟨kx, 0, none⟩)), .int .i32 (2 * (i : Int)), .iface 220 (.pointer (some ⟨ib, 0, none⟩)), .int .i32 (2 * (i : Int) + 1), .int .i32 0, .int .u8 0, .bool false, .bool false, .bool false] 211 (0, 0))) ∨ (D.kd i = 2 ∧ ∃ kx, X (D.nd i) (.cells #[.iface 220 (.pointer (some ⟨kx, 0, none⟩)), .int .i32 (2 * (i : Int)), .string nm, .int .i32 (2 * (i : Int) + 1), .int .u8 0, .bool false, .bool false, .bool false] 44 (0, 0))) ∨
  (D.kd i = 3 ∧ ∃ kx, X (D.inn i) (.cells #[.iface 244 (.pointer (some ⟨kx, 0, none⟩)), .int .i32 (2 * (i : Int)), .string nm, .int .i32 (2 * (i : Int) + 1), .int .u8 0, .bool false, .bool false, .bool false] 44 (0, 0))) ∨ D.kd i = 4 ∨ (D.kd i = 5 ∧ X (D.nd i) (.cells #[.slice (some ⟨(D.pp i), 0, none⟩) 1 1, .int .i32 0, .int .i32 0, .bool false, .bool false] 237 (0, 0)) ∧ ∃ kx, X (D.inn i) (.cells #[.iface 244 (.pointer (some ⟨kx, 0, none⟩)), .int .i32 (2 * (i : Int)), .string nm, .int .i32 (2 * (i : Int) + 1), .int .u8 0, .bool false, .bool false, .bool false] 44 (0, 0)))
theorem RawI.mono {X Y : Nat → Obj → Prop} (h : ∀ b o, X b o → Y b o) {D : Dm} {nm : ByteArray} {i : Nat} : RawI X D nm i → RawI Y D nm i := by
  rintro (⟨h1, kx, h2⟩ | ⟨h1, kx, ib, h2⟩ | ⟨h1, kx, h2⟩ | ⟨h1, kx, h2⟩ | h1 | ⟨h1, h2, kx, h3⟩)
  · exact Or.inl ⟨h1, kx, h _ _ h2⟩
  · exact Or.inr (Or.inl ⟨h1, kx, ib, h _ _ h2⟩)
  · exact Or.inr (Or.inr (Or.inl ⟨h1, kx, h _ _ h2⟩))
  · exact Or.inr (Or.inr (Or.inr (Or.inl ⟨h1, kx, h _ _ h2⟩)))
  · exact Or.inr (Or.inr (Or.inr (Or.inr (Or.inl h1))))
  · exact Or.inr (Or.inr (Or.inr (Or.inr (Or.inr ⟨h1, h _ _ h2, kx, h _ _ h3⟩))))
theorem RawI.same {X : Nat → Obj → Prop} {D D' : Dm} {k : Nat} {nm : ByteArray} (hd : SameTo D D' k) {i : Nat} (hi : i < k) (h : RawI X D nm i) : RawI X D' nm i := by
  obtain ⟨h1, h2, h3, h4⟩ := hd i hi
  unfold RawI
  rw [h1, h2, h3, h4]
  exact h
def t0 (k : Nat) : Nat := if k = 0 then 40 else if k = 1 then 209 else if k = 2 then 40 else if k = 3 then 227 else if k = 4 then 220 else 229
def vT1 (D : Dm) (k i : Nat) : Nat := if i < k ∧ D.kd i < 2 then 40 else t0 (D.kd i)
def vB1 (D : Dm) (nw : Nat → Nat) (k i : Nat) : Nat := if i < k ∧ D.kd i < 2 then nw i else D.nd i
/-- An item's inner value. -/
def InnV (X : Nat → Obj → Prop) (t b : Nat) (l : Int) (t' b' : Nat) (l' : Int) : Prop :=
  ((t = 40 ∨ t = 209 ∨ t = 220) ∧ t' = t ∧ b' = b ∧ l' = l) ∨ (t = 227 ∧ t' = 40 ∧ X b (.cells #[.iface 40 (.pointer (some ⟨b', 0, none⟩)), .int .i32 l'] 234 (0, 0))) ∨ (t = 229 ∧ t' = 40 ∧ ∃ pp, X b (.cells #[.slice (some ⟨pp, 0, none⟩) 1 1, .int .i32 0, .int .i32 0, .bool false, .bool false] 237 (0, 0)) ∧ X pp (.cells #[.pointer none, .nilIface, .int .i32 0, .iface 40 (.pointer (some ⟨b', 0, none⟩)), .int .i32 l', .nilIface, .int .i32 0, .slice none 0 0, .int .i32 0, .int .i32 0, .int .u8 0, .int .u8 0] 243 (0, 0)))
theorem InnV.mono {X Y : Nat → Obj → Prop} (h : ∀ b o, X b o → Y b o) {t b t' b' : Nat} {l l' : Int} : InnV X t b l t' b' l' → InnV Y t b l t' b' l' := by
  rintro (h1 | ⟨h1, h2, h3⟩ | ⟨h1, h2, pp, h3, h4⟩)
  · exact Or.inl h1
  · exact Or.inr (Or.inl ⟨h1, h2, h _ _ h3⟩)
  · exact Or.inr (Or.inr ⟨h1, h2, pp, h _ _ h3, h _ _ h4⟩)
def t2 (D : Dm) (t i : Nat) : Nat := if D.kd i = 3 ∨ D.kd i = 5 then 40 else t
def b2 (D : Dm) (bi b i : Nat) : Nat := if D.kd i = 3 ∨ D.kd i = 5 then bi else b
theorem cold_off {X : Nat → Obj → Prop} {D : Dm} {nw : Nat → Nat} {nm : ByteArray} {n i : Nat} (hi : i < n) (h : RawI X D nm i) : ColdV (NodT X D nw 0 n) false (vT1 D 0 i) (vB1 D nw 0 i) ∧ InnV (NodT X D nw 0 n) (vT1 D 0 i) (vB1 D nw 0 i) (2 * (i : Int)) (t2 D (vT1 D 0 i) i) (b2 D (D.inn i) (vB1 D nw 0 i) i) (2 * (i : Int)) := by
  have hT : vT1 D 0 i = t0 (D.kd i) := if_neg (by omega)
  have hB : vB1 D nw 0 i = D.nd i := if_neg (by omega)
  rw [hT, hB]
  rcases h with ⟨h1, kx, h2⟩ | ⟨h1, kx, ib, h2⟩ | ⟨h1, kx, h2⟩ | ⟨h1, kx, h2⟩ | h1 | ⟨h1, h2, kx, h3⟩
  · simp only [t2, b2, t0, h1]
    exact ⟨Or.inl ⟨rfl, _, _, _, _, _, (fun h => by cases h), Or.inl h2⟩, Or.inl ⟨Or.inl rfl, rfl, rfl, rfl⟩⟩
  · simp only [t2, b2, t0, h1]
    exact ⟨Or.inr (Or.inl ⟨rfl, rfl, _, _, _, _, _, Or.inl h2⟩), Or.inl ⟨Or.inr (Or.inl rfl), rfl, rfl, rfl⟩⟩
  · simp only [t2, b2, t0, h1]
    exact ⟨Or.inl ⟨rfl, _, _, _, _, _, (fun h => by cases h), Or.inl h2⟩, Or.inl ⟨Or.inl rfl, rfl, rfl, rfl⟩⟩
  · have h9 : NodT X D nw 0 n (D.nd i) (.cells #[.iface 40 (.pointer (some ⟨(D.inn i), 0, none⟩)), .int .i32 (2 * (i : Int))] 234 (0, 0)) := Or.inr ⟨i, hi, Or.inl h1, by unfold tn; rw [if_pos h1], by unfold tnO; rw [if_pos h1]; rfl⟩
    simp only [t2, b2, t0, h1]
    exact ⟨Or.inr (Or.inr (Or.inl ⟨rfl, _, _, h9, _, _, _, _, _, (fun h => by cases h), Or.inl h2⟩)), Or.inr (Or.inl ⟨rfl, rfl, h9⟩)⟩
  · simp only [t2, b2, t0, h1]
    exact ⟨Or.inr (Or.inr (Or.inr (Or.inl rfl))), Or.inl ⟨Or.inr (Or.inr rfl), rfl, rfl, rfl⟩⟩
  · have h9 : NodT X D nw 0 n (D.pp i) (.cells #[.pointer none, .nilIface, .int .i32 0, .iface 40 (.pointer (some ⟨(D.inn i), 0, none⟩)), .int .i32 (2 * (i : Int)), .nilIface, .int .i32 0, .slice none 0 0, .int .i32 0, .int .i32 0, .int .u8 0, .int .u8 0] 243 (0, 0)) := Or.inr ⟨i, hi, Or.inr h1, by unfold tn; rw [if_neg (by omega)], by unfold tnO; rw [if_neg (by omega)]; rfl⟩
    simp only [t2, b2, t0, h1]
    exact ⟨Or.inr (Or.inr (Or.inr (Or.inr ⟨rfl, _, _, _, Or.inl h2, h9, _, _, _, _, _, (fun h => by cases h), Or.inl h3⟩))), Or.inr (Or.inr ⟨rfl, rfl, _, Or.inl h2, h9⟩)⟩
theorem cold_on {X : Nat → Obj → Prop} {D : Dm} {nw : Nat → Nat} {nm : ByteArray} {n i : Nat} (hi : i < n) (h : RawI X D nm i) (hw : D.kd i ≠ 2 → D.kd i ≠ 4 → DotC X true (nw i)) : ColdV (NodT X D nw n n) true (vT1 D n i) (vB1 D nw n i) ∧ InnV (NodT X D nw n n) (vT1 D n i) (vB1 D nw n i) (2 * (i : Int)) (t2 D (vT1 D n i) i) (b2 D (nw i) (vB1 D nw n i) i) (2 * (i : Int)) := by
  have hm : ∀ b o, X b o → NodT X D nw n n b o := fun _ _ h => Or.inl h
  rcases h with ⟨h1, kx, h2⟩ | ⟨h1, kx, ib, h2⟩ | ⟨h1, kx, h2⟩ | ⟨h1, kx, h2⟩ | h1 | ⟨h1, h2, kx, h3⟩
  · have hT : vT1 D n i = 40 := if_pos ⟨hi, by omega⟩
    have hB : vB1 D nw n i = nw i := if_pos ⟨hi, by omega⟩
    rw [hT, hB]
    simp only [t2, b2, h1]
    exact ⟨Or.inl ⟨rfl, (hw (by omega) (by omega)).mono hm⟩, Or.inl ⟨Or.inl rfl, rfl, rfl, rfl⟩⟩
  · have hT : vT1 D n i = 40 := if_pos ⟨hi, by omega⟩
    have hB : vB1 D nw n i = nw i := if_pos ⟨hi, by omega⟩
    rw [hT, hB]
    simp only [t2, b2, h1]
    exact ⟨Or.inl ⟨rfl, (hw (by omega) (by omega)).mono hm⟩, Or.inl ⟨Or.inl rfl, rfl, rfl, rfl⟩⟩
  · have hT : vT1 D n i = t0 (D.kd i) := if_neg (by omega)
    have hB : vB1 D nw n i = D.nd i := if_neg (by omega)
    rw [hT, hB]
    simp only [t2, b2, t0, h1]
    exact ⟨Or.inl ⟨rfl, _, _, _, _, _, (fun _ => by decide), hm _ _ h2⟩, Or.inl ⟨Or.inl rfl, rfl, rfl, rfl⟩⟩
  · have hT : vT1 D n i = t0 (D.kd i) := if_neg (by omega)
    have hB : vB1 D nw n i = D.nd i := if_neg (by omega)
    have h9 : NodT X D nw n n (D.nd i) (.cells #[.iface 40 (.pointer (some ⟨(nw i), 0, none⟩)), .int .i32 (2 * (i : Int))] 234 (0, 0)) := Or.inr ⟨i, hi, Or.inl h1, by unfold tn; rw [if_pos h1], by unfold tnO; rw [if_pos h1, decide_eq_true hi]; rfl⟩
    rw [hT, hB]
    simp only [t2, b2, t0, h1]
    exact ⟨Or.inr (Or.inr (Or.inl ⟨rfl, _, _, h9, (hw (by omega) (by omega)).mono hm⟩)), Or.inr (Or.inl ⟨rfl, rfl, h9⟩)⟩
  · have hT : vT1 D n i = t0 (D.kd i) := if_neg (by omega)
    have hB : vB1 D nw n i = D.nd i := if_neg (by omega)
    rw [hT, hB]
    simp only [t2, b2, t0, h1]
    exact ⟨Or.inr (Or.inr (Or.inr (Or.inl rfl))), Or.inl ⟨Or.inr (Or.inr rfl), rfl, rfl, rfl⟩⟩
  · have hT : vT1 D n i = t0 (D.kd i) := if_neg (by omega)
    have hB : vB1 D nw n i = D.nd i := if_neg (by omega)
    have h9 : NodT X D nw n n (D.pp i) (.cells #[.pointer none, .nilIface, .int .i32 0, .iface 40 (.pointer (some ⟨(nw i), 0, none⟩)), .int .i32 (2 * (i : Int)), .nilIface, .int .i32 0, .slice none 0 0, .int .i32 0, .int .i32 0, .int .u8 0, .int .u8 0] 243 (0, 0)) := Or.inr ⟨i, hi, Or.inr h1, by unfold tn; rw [if_neg (by omega)], by unfold tnO; rw [if_neg (by omega), decide_eq_true hi]; rfl⟩
    rw [hT, hB]
    simp only [t2, b2, t0, h1]
    exact ⟨Or.inr (Or.inr (Or.inr (Or.inr ⟨rfl, _, _, _, hm _ _ h2, h9, (hw (by omega) (by omega)).mono hm⟩))), Or.inr (Or.inr ⟨rfl, rfl, _, hm _ _ h2, h9⟩)⟩

end Go.Proofs.YtcbdjbjbikiaeaaDoor.Use
