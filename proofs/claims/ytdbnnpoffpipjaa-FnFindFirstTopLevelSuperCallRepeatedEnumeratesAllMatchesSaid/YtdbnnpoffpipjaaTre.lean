/- Trees of commas, told by numbers; the frame behind a search. No condition. -/
import Derived.Test.YtdbnnpoffpipjaaLoop
import Derived.Test.YtdbnnpoffpipjaaAppL
import Derived.Test.YtdbnnpoffpipjaaApp
import Derived.Test.YtdbnnpoffpipjaaOwnK
import Derived.Test.YtdbnnpoffpipjaaOwn
import Derived.Test.YtdbnnpoffpipjaaDeepCells
import Derived.Test.YtdbnnpoffpipjaaRows
namespace Go.Proofs.Ytdbnnpoffpipjaa.Use
open Go.ChangeShapes Go.WideShapes Go.ChangeAt Go.RowKit Go.Sort Own
set_option linter.unusedVariables false
/-- A tree of commas: its leaves by their numbers, its nodes by their blocks. -/
inductive Tr where
  | leaf (i : Nat)
  | node (b : Nat) (l r : Tr)
def Tr.flat : Tr → List Nat
  | .leaf i => [i]
  | .node _ l r => l.flat ++ r.flat
def Tr.dep : Tr → Nat
  | .leaf _ => 1
  | .node _ l r => l.dep + r.dep
theorem Tr.dep_pos : ∀ t : Tr, 0 < t.dep
  | .leaf _ => Nat.one_pos
  | .node _ l r => by have := l.dep_pos; show 0 < l.dep + r.dep; omega
/-- Trees told by numbers. -/
def pr (a b : Nat) : Nat := 2 ^ a * (2 * b + 1)
def un : Nat → Nat → Nat × Nat
  | 0, n => (0, n)
  | f + 1, n => if n % 2 = 0 then ((un f (n / 2)).1 + 1, (un f (n / 2)).2) else (0, n / 2)
theorem pr_succ (a b : Nat) : pr (a + 1) b = 2 * pr a b := by
  unfold pr
  rw [Nat.pow_succ, Nat.mul_comm (2 ^ a) 2, Nat.mul_assoc]
theorem un_pr : ∀ (a b f : Nat), a ≤ f → un (f + 1) (pr a b) = (a, b)
  | 0, b, f, _ => by
    have h : pr 0 b = 2 * b + 1 := by unfold pr; rw [Nat.pow_zero, Nat.one_mul]
    rw [h]
    unfold un
    rw [if_neg (by omega), show (2 * b + 1) / 2 = b by omega]
  | a + 1, b, 0, h => absurd h (by omega)
  | a + 1, b, f + 1, h => by
    unfold un
    rw [pr_succ, if_pos (by omega), show 2 * pr a b / 2 = pr a b by omega, un_pr a b f (by omega)]
theorem le_pr (a b : Nat) : a ≤ pr a b := by
  unfold pr
  have h1 : a < 2 ^ a := Nat.lt_two_pow_self
  have h2 : 2 ^ a * 1 ≤ 2 ^ a * (2 * b + 1) := Nat.mul_le_mul_left _ (by omega)
  omega
def uu (n : Nat) : Nat × Nat := un (n + 1) n
theorem uu_pr (a b : Nat) : uu (pr a b) = (a, b) := un_pr a b _ (le_pr a b)
def Tr.enc : Tr → Nat
  | .leaf i => pr 0 i
  | .node b l r => pr 1 (pr b (pr l.enc r.enc))
def Tr.dec : Nat → Nat → Tr
  | 0, _ => .leaf 0
  | f + 1, n => if (uu n).1 = 0 then .leaf (uu n).2 else .node (uu (uu n).2).1 (Tr.dec f (uu (uu (uu n).2).2).1) (Tr.dec f (uu (uu (uu n).2).2).2)
theorem Tr.dec_enc : ∀ (t : Tr) (f : Nat), t.dep ≤ f → Tr.dec f t.enc = t
  | .leaf i, 0, h => absurd h (by show ¬ 1 ≤ 0; omega)
  | .leaf i, f + 1, _ => by
    have e : Tr.enc (.leaf i) = pr 0 i := rfl
    unfold Tr.dec
    rw [e, uu_pr]
    exact if_pos rfl
  | .node b l r, 0, h => absurd h (by have := l.dep_pos; show ¬ l.dep + r.dep ≤ 0; omega)
  | .node b l r, f + 1, h => by
    have h1 : l.dep + r.dep ≤ f + 1 := h
    have h2 := l.dep_pos
    have h3 := r.dep_pos
    have e : Tr.enc (.node b l r) = pr 1 (pr b (pr l.enc r.enc)) := rfl
    unfold Tr.dec
    rw [e, uu_pr]
    simp only [uu_pr]
    rw [if_neg (by omega), Tr.dec_enc l f (by omega), Tr.dec_enc r f (by omega)]
def encO : Option Tr → Nat
  | none => pr 0 0
  | some t => pr t.dep t.enc
def decO (n : Nat) : Option Tr := if (uu n).1 = 0 then none else some (Tr.dec (uu n).1 (uu n).2)
theorem decO_enc (o : Option Tr) : decO (encO o) = o := by
  unfold decO
  cases o with
  | none =>
    have e : encO none = pr 0 0 := rfl
    rw [e, uu_pr]
    exact if_pos rfl
  | some t =>
    have e : encO (some t) = pr t.dep t.enc := rfl
    have h := t.dep_pos
    rw [e, uu_pr, t.dec_enc _ (Nat.le_refl _)]
    exact if_neg (by show ¬ t.dep = 0; omega)
/-- What a search hands back: what stands before, what stands after. -/
def cod (a b : Option Tr) : Nat := pr (encO a) (encO b)
def bf (c : Nat) : Option Tr := decO (uu c).1
def af (c : Nat) : Option Tr := decO (uu c).2
theorem bf_cod (a b : Option Tr) : bf (cod a b) = a := by
  unfold bf cod
  rw [uu_pr, decO_enc]
theorem af_cod (a b : Option Tr) : af (cod a b) = b := by
  unfold af cod
  rw [uu_pr, decO_enc]
/-- Block b is one of the tree's nodes, with these two below it. -/
inductive Tr.Has : Tr → Nat → Tr → Tr → Prop where
  | here (b : Nat) (l r : Tr) : Has (.node b l r) b l r
  | left {b c : Nat} {l r x y : Tr} : Has l c x y → Has (.node b l r) c x y
  | right {b c : Nat} {l r x y : Tr} : Has r c x y → Has (.node b l r) c x y
/-- The first leaf, by its number. -/
def Tr.fst : Tr → Nat
  | .leaf i => i
  | .node _ l _ => l.fst
def flatO : Option Tr → List Nat
  | none => []
  | some t => t.flat

structure Dat where
  kd : Nat → Nat
  ad : Nat → Nat
  ib : Nat → Nat
  src : Int
  inn : Int
  inx : Int
/-- A leaf's node. -/
def lfD (D : Dat) (i : Nat) : Value := if D.kd i = 0 then .iface 59 (.pointer (some ⟨D.ad i, 0, none⟩)) else .iface 36 (.pointer (some ⟨D.ad i, 0, none⟩))
def dV (D : Dat) : Tr → Value
  | .leaf i => lfD D i
  | .node b _ _ => .iface 63 (.pointer (some ⟨b, 0, none⟩))
def lV (t : Tr) : Int := t.fst
def dO (D : Dat) : Option Tr → Value
  | none => .nilIface
  | some t => dV D t
def lO : Option Tr → Int
  | none => 0
  | some t => lV t
def binC (D : Dat) (l r : Tr) : Array Value := #[dV D l, .int .i32 (lV l), dV D r, .int .i32 (lV r), .int .u8 36, .bool false]
def callC (d : Value) (i : Int) : Array Value := #[d, .int .i32 i, .slice none 0 0, .int .i32 0, .int .u8 0, .int .u8 0, .bool false, .bool false]
def idC (s i : Int) : Array Value := #[.int .u32 s, .int .u32 i, .bool false, .bool false, .bool false]
def Dat.inr (D : Dat) (i : Nat) : Int := if D.kd i = 1 then D.inn else D.inx
/-- All nodes of a tree stand in the frame. -/
def NodesIn (X : Nat → Obj → Prop) (D : Dat) (t : Tr) : Prop := ∀ b l r, t.Has b l r → X b (.cells (binC D l r) 66 (0, 0))
/-- A call among the leaves stands in the frame, with its target. -/
def LeafIn (X : Nat → Obj → Prop) (D : Dat) (i : Nat) : Prop := D.kd i = 0 ∨ (X (D.ad i) (.cells (callC (.iface 56 (.pointer (some ⟨D.ib i, 0, none⟩))) i) 46 (0, 0)) ∧ X (D.ib i) (.cells (idC D.src (D.inr i)) 58 (0, 0)))
def mkO : List Nat → Option Tr
  | [] => none
  | i :: l => match mkO l with
    | none => some (.leaf i)
    | some t => some (.node 0 (.leaf i) t)
theorem flatO_mk : ∀ l, flatO (mkO l) = l
  | [] => rfl
  | i :: l => by
    have h := flatO_mk l
    unfold mkO
    cases e : mkO l with
    | none =>
      rw [e] at h
      show [i] = i :: l
      rw [← h]
      rfl
    | some t =>
      rw [e] at h
      show [i] ++ t.flat = i :: l
      rw [← h]
      rfl
def fixO (A : List Nat) (o : Option Tr) : Option Tr := if flatO o = A then o else mkO A
theorem flatO_fix (A : List Nat) (o : Option Tr) : flatO (fixO A o) = A := by
  unfold fixO
  split
  · assumption
  · exact flatO_mk A
/-- What the search hands back of code c: what stands before the call (the leaves of A) and behind it (those of B). -/
def bfA (A : List Nat) (c : Nat) : Option Tr := fixO A (bf c)
def afB (B : List Nat) (c : Nat) : Option Tr := fixO B (af c)
theorem bfA_cod {A : List Nat} {a b : Option Tr} (h : flatO a = A) : bfA A (cod a b) = a := by
  unfold bfA fixO
  rw [bf_cod, if_pos h]
theorem afB_cod {B : List Nat} {a b : Option Tr} (h : flatO b = B) : afB B (cod a b) = b := by
  unfold afB fixO
  rw [af_cod, if_pos h]
theorem flat_bfA (A : List Nat) (c : Nat) : flatO (bfA A c) = A := flatO_fix A _
theorem flat_afB (B : List Nat) (c : Nat) : flatO (afB B c) = B := flatO_fix B _
/-- The frame behind a search that has found the call k: its target turned, the new nodes given. -/
def XF (X : Nat → Obj → Prop) (D : Dat) (k : Nat) (A B : List Nat) (es c : Nat) : Nat → Obj → Prop := fun b o =>
  (X b o ∧ b ≠ D.ad k) ∨ (b = D.ad k ∧ o = .cells (callC (.iface 67 (.pointer (some ⟨es, 0, none⟩))) k) 46 (0, 0)) ∨ ∃ t l r, (bfA A c = some t ∨ afB B c = some t) ∧ t.Has b l r ∧ o = .cells (binC D l r) 66 (0, 0)
def NodesO (X : Nat → Obj → Prop) (D : Dat) : Option Tr → Prop
  | none => True
  | some t => NodesIn X D t


theorem _root_.Go.Proofs.Ytdbnnpoffpipjaa.Own.OwnF.reX {w0 w : World} {I : Nat → Prop} {ρ : Nat → Rw} {X X' : Nat → Obj → Prop} (e : X' = X) (h : OwnF w0 w I ρ X) : OwnF w0 w I ρ X' := e ▸ h
/-- A call that changes the frame: Y behind it, of which Z is kept. -/
theorem step_callX {cnt : List (Nat × Nat)} {nb : Nat} {anc trn : Nat → List Nat} {ρ : (Nat → Bool) → Rega.Atoms → Nat → Rw} {k : Nat} {L : Nat → Bool} {α α' : Rega.Atoms} {w0 u u' : World} {X Y Z : Nat → Obj → Prop} (hS : Stable cnt nb anc trn ρ) (hk : L k = false) (hcl : ∀ j, L j = true → ∀ i, i ∈ anc j → L i = true) (hα : ∀ j, j % 1000 ≠ k → α' j = α j) (is js : List Nat) (h1 : (is.all fun i => js.contains i) = true) (h2 : ((trn k).all fun i => is.contains i) = true)
    (h3 : ((List.range ((cnt.lookup k).getD 0)).all fun n => js.contains (n * 1000 + k)) = true) {M : List Rw} (hM : js.map (ρ (Rega.ran L k) α') = M) (h : OwnF w0 u (act cnt nb L) (ρ L α) X) (hO : Own w0 u' M Y) (hZ : ∀ b o, Z b o → Y b o)
    (hR : ∀ i, act cnt nb L i → i ∉ is → Y (ρ L α i).1 (ρ L α i).2) (hZr : ∀ b o, Z b o → ∀ i, act cnt nb L i → i ∉ is → (ρ L α i).1 ≠ b) :
    OwnF w0 u' (act cnt nb (Rega.ran L k)) (ρ (Rega.ran L k) α') Z := by
  have hI : ∀ i, act cnt nb (Rega.ran L k) i → i ∈ js ∨ (act cnt nb L i ∧ i ∉ is ∧ ρ (Rega.ran L k) α' i = ρ L α i) := by
    intro i hi
    rcases act_ran hi with h4 | ⟨h4, h5⟩
    · by_cases hm : i ∈ is
      · exact Or.inl (by have := List.all_eq_true.1 h1 i hm; simpa using this)
      · refine Or.inr ⟨h4, hm, hS k L α α' i hk hcl hα h4 (fun hc => hm ?_)⟩
        have := List.all_eq_true.1 h2 i hc
        simpa using this
    · refine Or.inl ?_
      have := List.all_eq_true.1 h3 (i / 1000) (List.mem_range.2 h5)
      have h6 : i / 1000 * 1000 + k = i := by omega
      rw [h6] at this
      simpa using this
  have hmem : ∀ i, i ∈ js → ρ (Rega.ran L k) α' i ∈ M := fun i hi => by rw [← hM]; exact List.mem_map_of_mem hi
  refine ⟨hO.below, fun i hi => ?_, fun i j hi hj hij => ?_, fun b o hz => ⟨(hO.frame b o (hZ b o hz)).1, (hO.frame b o (hZ b o hz)).2.1, fun i hi => ?_⟩⟩
  · rcases hI i hi with hm | ⟨h4, h5, h6⟩
    · exact hO.rows _ (hmem i hm)
    · have := hO.frame _ _ (hR i h4 h5)
      rw [h6]
      exact ⟨this.1, this.2.1⟩
  · rcases hI i hi with hm | ⟨h4, h5, h6⟩
    · rcases hI j hj with km | ⟨k4, k5, k6⟩
      · obtain ⟨a, ha⟩ := List.getElem?_of_mem hm
        obtain ⟨c, hc⟩ := List.getElem?_of_mem km
        refine pairwise_ne hO.apart (i := a) (j := c) ?_ ?_ (fun e => hij ?_)
        · rw [← hM, List.getElem?_map, ha]; rfl
        · rw [← hM, List.getElem?_map, hc]; rfl
        · subst e; exact Option.some.inj (ha.symm.trans hc)
      · rw [k6]
        exact (hO.frame _ _ (hR j k4 k5)).2.2 _ (hmem i hm)
    · rcases hI j hj with km | ⟨k4, k5, k6⟩
      · rw [h6]
        exact ((hO.frame _ _ (hR i h4 h5)).2.2 _ (hmem j km)).symm
      · rw [h6, k6]
        exact h.apart i j h4 k4 hij
  · rcases hI i hi with hm | ⟨h4, h5, h6⟩
    · exact (hO.frame b o (hZ b o hz)).2.2 _ (hmem i hm)
    · rw [h6]
      exact hZr b o hz i h4 h5
/-- The search as a step of a region. -/
theorem step_xf {cnt : List (Nat × Nat)} {nb : Nat} {anc trn : Nat → List Nat} {ρ : (Nat → Bool) → Rega.Atoms → Nat → Rw} {k : Nat} {L : Nat → Bool} {α α' : Rega.Atoms} {w0 u u' : World} {X : Nat → Obj → Prop} {D : Dat} {kk es c : Nat} {A B : List Nat} {ok : Obj} (hS : Stable cnt nb anc trn ρ) (hk : L k = false) (hcl : ∀ j, L j = true → ∀ i, i ∈ anc j → L i = true) (hα : ∀ j, j % 1000 ≠ k → α' j = α j) (is js : List Nat) (h1 : (is.all fun i => js.contains i) = true) (h2 : ((trn k).all fun i => is.contains i) = true)
    (h3 : ((List.range ((cnt.lookup k).getD 0)).all fun n => js.contains (n * 1000 + k)) = true) {M : List Rw} (hM : js.map (ρ (Rega.ran L k) α') = M) (h : OwnF w0 u (act cnt nb L) (ρ L α) X) (hXk : X (D.ad kk) ok)
    (hty : ∀ i, act cnt nb L i → ∃ c9 y9, (ρ L α i).2 = Obj.cells c9 y9 (0, 0) ∧ y9 ≠ 66) (hO : Own w0 u' M (XF (fun b o => X b o ∨ ∃ i, act cnt nb L i ∧ i ∉ is ∧ ρ L α i = (b, o)) D kk A B es c)) :
    OwnF w0 u' (act cnt nb (Rega.ran L k)) (ρ (Rega.ran L k) α') (XF X D kk A B es c) := by
  have hR : ∀ i, act cnt nb L i → i ∉ is → XF (fun b o => X b o ∨ ∃ i, act cnt nb L i ∧ i ∉ is ∧ ρ L α i = (b, o)) D kk A B es c (ρ L α i).1 (ρ L α i).2 := fun i hi hn => Or.inl ⟨Or.inr ⟨i, hi, hn, rfl⟩, (h.frame _ _ hXk).2.2 i hi⟩
  have hZ : ∀ b o, XF X D kk A B es c b o → XF (fun b o => X b o ∨ ∃ i, act cnt nb L i ∧ i ∉ is ∧ ρ L α i = (b, o)) D kk A B es c b o := by
    rintro b o (⟨h4, h5⟩ | h4)
    · exact Or.inl ⟨Or.inl h4, h5⟩
    · exact Or.inr h4
  refine step_callX hS hk hcl hα is js h1 h2 h3 hM h hO hZ hR (fun b o hz i hi hn e => ?_)
  have h7 := (hO.frame _ _ (hR i hi hn)).2.1
  have h8 := (hO.frame _ _ (hZ b o hz)).2.1
  rcases hz with ⟨h4, h5⟩ | ⟨h4, h5⟩ | ⟨t, l, r, h4, h5, h6⟩
  · exact (h.frame _ _ h4).2.2 i hi e
  · exact (h.frame _ _ hXk).2.2 i hi (e.trans h4)
  · obtain ⟨c9, y9, h9, h10⟩ := hty i hi
    rw [e, h8, h9, h6] at h7
    injection h7 with h7
    injection h7 with h7a h7b h7c
    exact h10 h7b.symm
/-- A node's block is no call's. -/
theorem node_ne {w0 w : World} {L : List Rw} {X : Nat → Obj → Prop} (h : Own w0 w L X) {a b : Nat} {c d : Array Value} (h1 : X b (.cells c 66 (0, 0))) (h2 : X a (.cells d 46 (0, 0))) : b ≠ a := by
  intro e
  subst e
  have h3 := (h.frame _ _ h1).2.1
  rw [(h.frame _ _ h2).2.1] at h3
  injection h3 with h3
  injection h3 with h3a h3b h3c
  exact absurd h3b (by decide)
theorem _root_.Go.Proofs.Ytdbnnpoffpipjaa.Own.Own.fcell {w0 w : World} {L : List Rw} {X : Nat → Obj → Prop} (h : Own w0 w L X) {b : Nat} {t : TypeId} {c : Array Value} (hx : X b (.cells c t (0, 0))) (o : Nat) {v : Value} (hv : c[o]? = some v) : w.cell? ⟨b, o, none⟩ = some v :=
  Base.RowAt.cell (show Base.RowAt w b t c from (h.frame b _ hx).2.1) hv
theorem _root_.Go.Proofs.Ytdbnnpoffpipjaa.Own.Own.reframe {w0 w : World} {L : List Rw} {X Y : Nat → Obj → Prop} (h : Own w0 w L X) (hXY : ∀ b o, Y b o → X b o) : Own w0 w L Y := ⟨h.below, h.rows, h.apart, fun b o hy => h.frame b o (hXY b o hy)⟩

end Go.Proofs.Ytdbnnpoffpipjaa.Use
