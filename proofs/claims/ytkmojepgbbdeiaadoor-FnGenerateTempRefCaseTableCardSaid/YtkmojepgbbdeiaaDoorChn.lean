/- The chain of block scopes. No condition. -/
import Derived.Test.YtkmojepgbbdeiaaDoorTs
namespace Go.Proofs.YtkmojepgbbdeiaaDoor.Use
open Go.ChangeShapes Go.WideShapes Go.ChangeAt Go.RowKit Go.Sort Own
set_option linter.unusedVariables false
/-- The frame, and the chain of block scopes above the function's body. -/
def chX (X : Nat → Obj → Prop) (SA : Nat → Array Value) (blk : Nat → Nat) (j : Nat) : Nat → Obj → Prop := fun b o => X b o ∨ ∃ k, k < j ∧ b = blk (k + 1) ∧ o = .cells (SA (blk k)) 38 (0, 0)
def upd1 (blk : Nat → Nat) (j b : Nat) : Nat → Nat := fun k => if k = j then b else blk k
theorem upd1_same (blk : Nat → Nat) (j b : Nat) : upd1 blk j b j = b := if_pos rfl
theorem upd1_ne {blk : Nat → Nat} {j b k : Nat} (h : k ≠ j) : upd1 blk j b k = blk k := if_neg h
theorem chX_upd {X : Nat → Obj → Prop} {SA : Nat → Array Value} {blk : Nat → Nat} {j b : Nat} : ∀ b' o', chX X SA (upd1 blk (j + 1) b) (j + 1) b' o' → chX X SA blk j b' o' ∨ (b' = b ∧ o' = .cells (SA (blk j)) 38 (0, 0)) := by
  intro b' o' h
  rcases h with h | ⟨k, hk, h1, h2⟩
  · exact Or.inl (Or.inl h)
  · rw [upd1_ne (show k ≠ j + 1 by omega)] at h2
    by_cases hkj : k = j
    · subst hkj
      rw [upd1_same] at h1
      exact Or.inr ⟨h1, h2⟩
    · rw [upd1_ne (show k + 1 ≠ j + 1 by omega)] at h1
      exact Or.inl (Or.inr ⟨k, by omega, h1, h2⟩)
theorem _root_.Go.Proofs.YtkmojepgbbdeiaaDoor.Own.Own.reframe {w0 w : World} {L : List Rw} {X Y : Nat → Obj → Prop} (h : Own w0 w L X) (hXY : ∀ b o, Y b o → X b o) : Own w0 w L Y := ⟨h.below, h.rows, h.apart, fun b o hy => h.frame b o (hXY b o hy)⟩
theorem _root_.Go.Proofs.YtkmojepgbbdeiaaDoor.Own.Own.unlend {w0 w wA : World} {L LA : List Rw} {X Y : Nat → Obj → Prop} {b : Nat} {o : Obj} (h0 : Own w0 wA LA X) (hx : X b o) (hY : Y = fun b' o' => X b' o' ∧ b' ≠ b) (h : Own w0 w ((b, o) :: L) Y) : Own w0 w L X := by
  subst hY
  refine h.give (fun b' o' hy => ?_)
  by_cases e : b' = b
  · subst e
    have h1 := (h0.frame b' o' hy).2.1
    have h2 := (h0.frame b' o hx).2.1
    rw [h1] at h2
    exact Or.inr ⟨rfl, Option.some.inj h2⟩
  · exact Or.inl ⟨hy, e⟩
/-- The scopes of the chain are apart. -/
def Apt (blk : Nat → Nat) (j : Nat) : Prop := ∀ i k, i < k → k ≤ j → blk i ≠ blk k
theorem Apt.zero (blk : Nat → Nat) : Apt blk 0 := fun i k h1 h2 => by omega
theorem Apt.upd {blk : Nat → Nat} {j b : Nat} (h : Apt blk j) (hb : ∀ k, k ≤ j → blk k ≠ b) : Apt (upd1 blk (j + 1) b) (j + 1) := by
  intro i k h1 h2
  rw [upd1_ne (show i ≠ j + 1 by omega)]
  by_cases hk : k = j + 1
  · subst hk
    rw [upd1_same]
    exact hb i (by omega)
  · rw [upd1_ne hk]
    exact h i k h1 (by omega)
def ApX (X : Nat → Obj → Prop) (blk : Nat → Nat) (j : Nat) : Prop := ∀ b o, X b o → ∀ k, 0 < k → k ≤ j → b ≠ blk k
theorem ApX.zero (X : Nat → Obj → Prop) (blk : Nat → Nat) : ApX X blk 0 := fun b o hx k h1 h2 => by omega
theorem ApX.upd {w0 w : World} {X : Nat → Obj → Prop} {SA : Nat → Array Value} {blk : Nat → Nat} {j b : Nat} {o : Obj} {L : List Rw} (h : ApX X blk j) (hO : Own w0 w ((b, o) :: L) (chX X SA blk j)) : ApX X (upd1 blk (j + 1) b) (j + 1) := by
  intro b' o' hx k h1 h2
  by_cases hk : k = j + 1
  · subst hk
    rw [upd1_same]
    exact ((hO.frame b' o' (Or.inl hx)).2.2 (b, o) List.mem_cons_self).symm
  · rw [upd1_ne hk]
    exact h b' o' hx k h1 (by omega)
/-- A new row is apart from the chain. -/
theorem chain_new {w0 w : World} {X : Nat → Obj → Prop} {SA : Nat → Array Value} {blk : Nat → Nat} {j b : Nat} {o : Obj} {r : Rw} {L : List Rw} (h : Own w0 w ((b, o) :: r :: L) (chX X SA blk j)) (h0 : blk 0 = r.1) : ∀ k, k ≤ j → blk k ≠ b := by
  intro k hk e
  match k, hk, e with
  | 0, _, e =>
    have := (List.pairwise_cons.1 h.apart).1 r List.mem_cons_self
    exact this (e.symm.trans h0)
  | k + 1, hk, e => exact (h.frame (blk (k + 1)) _ (Or.inr ⟨k, by omega, rfl, rfl⟩)).2.2 (b, o) List.mem_cons_self e.symm

/-- A block scope in the scope p. -/
def scB (p : Nat) : Array Value := #[.pointer none, .pointer (some ⟨p, 0, none⟩), .slice none 0 0, .map none, .slice none 0 0, .slice none 0 0, .int .i32 0, .int .i32 0, .int .u32 0, .int .u32 0, .bool false, .bool false, .bool false, .bool false, .int .u8 0, .int .u8 0]
theorem scB_kind (p : Nat) : (scB p)[15]? = some (.int .u8 0) := rfl
theorem scB_par (p : Nat) : (scB p)[1]? = some (.pointer (some ⟨p, 0, none⟩)) := rfl
theorem scB_gen (p : Nat) : (scB p)[5]? = some (.slice none 0 0) := rfl

end Go.Proofs.YtkmojepgbbdeiaaDoor.Use
