/- Nullish coalescing with an identifier on the left, walked. No condition. -/
import Derived.Test.YtlgefnjkoklboaaDoorHelp
import Derived.Test.YtlgefnjkoklboaaDoorLowNum
namespace Go.Proofs.YtlgefnjkoklboaaDoor.Use
open Go.ChangeShapes Go.WideShapes Go.ChangeAt Go.RowKit Go.Sort
set_option linter.unusedVariables false
theorem set_get {C : Array Value} {k : Nat} {v : Value} (h : C[k]? = some v) (u : Value) : (C.setIfInBounds k u)[k]? = some u := by
  rw [Array.getElem?_setIfInBounds, if_pos rfl, if_pos (Array.getElem?_eq_some_iff.1 h).1]
def rNiE (B N pb ib sb i c : Nat) (loc l0 lr src : Int) (rT rb : Nat) (C : Array Value) : Nat → Rega.Atoms → Value
  | 0, α => .func (Fn.func 50) #[] #[.pointer (some ⟨B + 1 + 1 + 1 + 1 + 1 + 1, 0, none⟩)]
  | 1, α => .agg #[.int .i32 loc]
  | 2, α => .agg #[.int .i32 loc]
  | 3, α => .func (Fn.func 59) #[] #[.pointer (some ⟨B + 1 + 1 + 1 + 1, 0, none⟩), .pointer (some ⟨B + 1 + 1 + 1 + 1 + 1 + 1 + 1, 0, none⟩), .pointer (some ⟨B + 1 + 1 + 1 + 1 + 1, 0, none⟩)]
  | 4, α => .agg #[.iface 55 (.pointer (some ⟨α 4, 0, none⟩)), .int .i32 loc]
  | 5, α => .agg #[.int .i32 loc]
  | 6, α => .agg #[]
  | 7, α => .pointer (some ⟨α 7, 0, none⟩)
  | 8, α => .iface 211 (.pointer (some ⟨α 7, 0, none⟩))
  | 9, α => .agg #[.iface 211 (.pointer (some ⟨α 7, 0, none⟩)), .int .i32 loc]
  | 10, α => .agg #[.iface 55 (.pointer (some ⟨α 4, 0, none⟩)), .int .i32 loc, .iface 211 (.pointer (some ⟨α 7, 0, none⟩)), .int .i32 loc, .int .u8 27, .bool false]
  | 11, α => .pointer (some ⟨α 11, 0, none⟩)
  | 12, α => .iface 41 (.pointer (some ⟨α 11, 0, none⟩))
  | 13, α => .agg #[.iface 41 (.pointer (some ⟨α 11, 0, none⟩)), .int .i32 loc]
  | 14, α => .func (Fn.func 59) #[] #[.pointer (some ⟨B + 1 + 1 + 1 + 1, 0, none⟩), .pointer (some ⟨B + 1 + 1 + 1 + 1 + 1 + 1 + 1, 0, none⟩), .pointer (some ⟨B + 1 + 1 + 1 + 1 + 1, 0, none⟩)]
  | 15, α => .agg #[.iface 55 (.pointer (some ⟨α 15, 0, none⟩)), .int .i32 loc]
  | 16, α => .agg #[.iface rT (.pointer (some ⟨rb, 0, none⟩)), .int .i32 lr]
  | 17, α => .agg #[.iface 41 (.pointer (some ⟨α 11, 0, none⟩)), .int .i32 loc, .iface 55 (.pointer (some ⟨α 15, 0, none⟩)), .int .i32 loc, .iface rT (.pointer (some ⟨rb, 0, none⟩)), .int .i32 lr]
  | 18, α => .pointer (some ⟨α 18, 0, none⟩)
  | 19, α => .iface 39 (.pointer (some ⟨α 18, 0, none⟩))
  | 20, α => .agg #[.iface 39 (.pointer (some ⟨α 18, 0, none⟩)), .int .i32 loc]
  | 21, α => .agg #[.iface 39 (.pointer (some ⟨α 18, 0, none⟩)), .int .i32 loc]
  | 22, α => undef
  | _, _ => undef
def rNiF (B N pb ib sb i c : Nat) (loc l0 lr src : Int) (rT rb : Nat) (C : Array Value) : Nat → (Nat → Bool) → Rega.Atoms → World → Prop
  | 4, L, α, u => N ≤ α 4 ∧ Base.RowAt u (α 4) 214 #[.int .u32 src, .int .u32 (i : Int), .bool false, .bool false, .bool false] ∧ (L 15 = false → Base.RowAt u sb 223 (C.setIfInBounds (i * 10 + 4) (.int .u32 ((c + 1 : Nat) : Int))))
  | 7, L, α, u => N ≤ α 7 ∧ Base.RowAt u (α 7) 235 #[]
  | 11, L, α, u => N ≤ α 11 ∧ Base.RowAt u (α 11) 47 #[.iface 55 (.pointer (some ⟨α 4, 0, none⟩)), .int .i32 loc, .iface 211 (.pointer (some ⟨α 7, 0, none⟩)), .int .i32 loc, .int .u8 27, .bool false] ∧ α 4 < α 11 ∧ α 7 < α 11
  | 15, L, α, u => N ≤ α 15 ∧ Base.RowAt u (α 15) 214 #[.int .u32 src, .int .u32 (i : Int), .bool false, .bool false, .bool false] ∧ α 4 < α 15 ∧ Base.RowAt u sb 223 ((C.setIfInBounds (i * 10 + 4) (.int .u32 ((c + 1 : Nat) : Int))).setIfInBounds (i * 10 + 4) (.int .u32 ((c + 1 + 1 : Nat) : Int)))
  | 18, L, α, u => N ≤ α 18 ∧ Base.RowAt u (α 18) 44 #[.iface 41 (.pointer (some ⟨α 11, 0, none⟩)), .int .i32 loc, .iface 55 (.pointer (some ⟨α 15, 0, none⟩)), .int .i32 loc, .iface rT (.pointer (some ⟨rb, 0, none⟩)), .int .i32 lr] ∧ α 4 < α 18 ∧ α 7 < α 18 ∧ α 11 < α 18 ∧ α 15 < α 18
  | 22, L, α, u => Base.RowAt u (B + 1 + 1 + 1) 34 #[.iface 39 (.pointer (some ⟨α 18, 0, none⟩)), .int .i32 loc]
  | _, _, _, _ => True
def rNiAnc : Nat → List Nat
  | 4 => [3]
  | 7 => [6]
  | 8 => [6, 7]
  | 9 => [5, 6, 7, 8]
  | 10 => [3, 4, 5, 6, 7, 8, 9]
  | 11 => [3, 4, 5, 6, 7, 8, 9, 10]
  | 12 => [3, 4, 5, 6, 7, 8, 9, 10, 11]
  | 13 => [2, 3, 4, 5, 6, 7, 8, 9, 10, 11, 12]
  | 15 => [3, 4, 14]
  | 17 => [2, 3, 4, 5, 6, 7, 8, 9, 10, 11, 12, 13, 14, 15, 16]
  | 18 => [2, 3, 4, 5, 6, 7, 8, 9, 10, 11, 12, 13, 14, 15, 16, 17]
  | 19 => [2, 3, 4, 5, 6, 7, 8, 9, 10, 11, 12, 13, 14, 15, 16, 17, 18]
  | 20 => [1, 2, 3, 4, 5, 6, 7, 8, 9, 10, 11, 12, 13, 14, 15, 16, 17, 18, 19]
  | 21 => [0, 1, 2, 3, 4, 5, 6, 7, 8, 9, 10, 11, 12, 13, 14, 15, 16, 17, 18, 19, 20]
  | 22 => [0, 1, 2, 3, 4, 5, 6, 7, 8, 9, 10, 11, 12, 13, 14, 15, 16, 17, 18, 19, 20, 21]
  | _ => []
def rNiMods (B N pb ib sb i c : Nat) (loc l0 lr src : Int) (rT rb : Nat) (C : Array Value) : Nat → List Nat
  | 4 => [sb]
  | 15 => [sb]
  | 22 => [B + 1 + 1 + 1]
  | _ => []
def rNiStep (B N pb ib sb i c : Nat) (loc l0 lr src : Int) (rT rb : Nat) (C : Array Value) (ii : Nat) (_ : Rega.Atoms) (w w' : World) : Prop := ii < 23 ∧ Base.KeptBut (rNiMods B N pb ib sb i c loc l0 lr src rT rb C ii) w w'
def rNiG (B N pb ib sb i c : Nat) (loc l0 lr src : Int) (rT rb : Nat) (C : Array Value) (W : World) (L : Nat → Bool) (u : World) : Prop := Base.KeptBut [B + 1 + 1 + 1, sb] W u ∧ (L 4 = false → Base.RowAt u sb 223 C) ∧ (L 22 = false → Base.RowAt u (B + 1 + 1 + 1) 34 #[.nilIface, .int .i32 0])
theorem rNi_he (B N pb ib sb i c : Nat) (loc l0 lr src : Int) (rT rb : Nat) (C : Array Value) : ∀ kk α α', (∀ j, (j % 1000 = kk ∨ j % 1000 ∈ rNiAnc kk) → α j = α' j) → rNiE B N pb ib sb i c loc l0 lr src rT rb C kk α = rNiE B N pb ib sb i c loc l0 lr src rT rb C kk α' := by
  intro kk α α' h
  match kk with
  | 0 => rfl
  | 1 => rfl
  | 2 => rfl
  | 3 => rfl
  | 4 => simp only [rNiE, h 4 (Or.inl rfl)]
  | 5 => rfl
  | 6 => rfl
  | 7 => simp only [rNiE, h 7 (Or.inl rfl)]
  | 8 => simp only [rNiE, h 7 (Or.inr (by decide))]
  | 9 => simp only [rNiE, h 7 (Or.inr (by decide))]
  | 10 => simp only [rNiE, h 4 (Or.inr (by decide)), h 7 (Or.inr (by decide))]
  | 11 => simp only [rNiE, h 11 (Or.inl rfl)]
  | 12 => simp only [rNiE, h 11 (Or.inr (by decide))]
  | 13 => simp only [rNiE, h 11 (Or.inr (by decide))]
  | 14 => rfl
  | 15 => simp only [rNiE, h 15 (Or.inl rfl)]
  | 16 => rfl
  | 17 => simp only [rNiE, h 11 (Or.inr (by decide)), h 15 (Or.inr (by decide))]
  | 18 => simp only [rNiE, h 18 (Or.inl rfl)]
  | 19 => simp only [rNiE, h 18 (Or.inr (by decide))]
  | 20 => simp only [rNiE, h 18 (Or.inr (by decide))]
  | 21 => simp only [rNiE, h 18 (Or.inr (by decide))]
  | 22 => rfl
  | n + 23 => rfl
theorem rNi_hF (B N pb ib sb i c : Nat) (loc l0 lr src : Int) (rT rb : Nat) (C : Array Value) : ∀ kk L α α' u, (∀ j, (j % 1000 = kk ∨ j % 1000 ∈ rNiAnc kk) → α j = α' j) → rNiF B N pb ib sb i c loc l0 lr src rT rb C kk L α u → rNiF B N pb ib sb i c loc l0 lr src rT rb C kk L α' u := by
  intro kk L α α' u h hf
  match kk with
  | 0 => trivial
  | 1 => trivial
  | 2 => trivial
  | 3 => trivial
  | 4 => simpa only [rNiF, h 4 (Or.inl rfl)] using hf
  | 5 => trivial
  | 6 => trivial
  | 7 => simpa only [rNiF, h 7 (Or.inl rfl)] using hf
  | 8 => trivial
  | 9 => trivial
  | 10 => trivial
  | 11 => simpa only [rNiF, h 4 (Or.inr (by decide)), h 7 (Or.inr (by decide)), h 11 (Or.inl rfl)] using hf
  | 12 => trivial
  | 13 => trivial
  | 14 => trivial
  | 15 => simpa only [rNiF, h 4 (Or.inr (by decide)), h 15 (Or.inl rfl)] using hf
  | 16 => trivial
  | 17 => trivial
  | 18 => simpa only [rNiF, h 4 (Or.inr (by decide)), h 7 (Or.inr (by decide)), h 11 (Or.inr (by decide)), h 15 (Or.inr (by decide)), h 18 (Or.inl rfl)] using hf
  | 19 => trivial
  | 20 => trivial
  | 21 => trivial
  | 22 => simpa only [rNiF, h 18 (Or.inr (by decide))] using hf
  | n + 23 => trivial
theorem rNi_mods (B N pb ib sb i c : Nat) (loc l0 lr src : Int) (rT rb : Nat) (C : Array Value) (hBN : B + 8 ≤ N) (hsB : sb < B) : ∀ ii x, x ∈ rNiMods B N pb ib sb i c loc l0 lr src rT rb C ii → x < N := by
  intro ii x hx
  unfold rNiMods at hx
  split at hx <;> simp at hx <;> omega
theorem rNi_hFs (B N pb ib sb i c : Nat) (loc l0 lr src : Int) (rT rb : Nat) (C : Array Value) (hBN : B + 8 ≤ N) (hsB : sb < B) : ∀ kk ii L α u u', ii ≠ kk → ii ∉ rNiAnc kk → L kk = true → L ii = false → (∀ j, L j = true → ∀ i, i ∈ rNiAnc j → L i = true) → (∀ j, j ∈ rNiAnc ii → L j = true) → rNiStep B N pb ib sb i c loc l0 lr src rT rb C ii α u u' → rNiF B N pb ib sb i c loc l0 lr src rT rb C kk L α u → rNiF B N pb ib sb i c loc l0 lr src rT rb C kk (Rega.ran L ii) α u' := by
  intro kk ii L α u u' hne hni hLk hLi hcl hai hst hf
  have hm := rNi_mods B N pb ib sb i c loc l0 lr src rT rb C hBN hsB ii
  match kk with
  | 0 => trivial
  | 1 => trivial
  | 2 => trivial
  | 3 => trivial
  | 4 =>
    refine ⟨?_, ?_, ?_⟩
    · exact hf.1
    · exact hf.2.1.kept hst.2 (fun h => by have h1 := hm _ h; have h2 := hf.1; omega)
    · intro hg
      have hik : ii ≠ 15 := by rintro rfl; simp [Rega.ran] at hg
      have hLn : L 15 = false := by simpa [Rega.ran, Ne.symm hik] using hg
      refine (hf.2.2 hLn).kept hst.2 ?_
      intro hx
      unfold rNiMods at hx
      split at hx <;> first | exact absurd rfl hne | exact hni (by decide) | exact absurd rfl hik | exact absurd (hai 15 (by decide)) (by rw [hLn]; decide) | (simp at hx; done) | (simp at hx; omega)
  | 5 => trivial
  | 6 => trivial
  | 7 =>
    refine ⟨?_, ?_⟩
    · exact hf.1
    · exact hf.2.kept hst.2 (fun h => by have h1 := hm _ h; have h2 := hf.1; omega)
  | 8 => trivial
  | 9 => trivial
  | 10 => trivial
  | 11 =>
    refine ⟨?_, ?_, ?_, ?_⟩
    · exact hf.1
    · exact hf.2.1.kept hst.2 (fun h => by have h1 := hm _ h; have h2 := hf.1; omega)
    · exact hf.2.2.1
    · exact hf.2.2.2
  | 12 => trivial
  | 13 => trivial
  | 14 => trivial
  | 15 =>
    refine ⟨?_, ?_, ?_, ?_⟩
    · exact hf.1
    · exact hf.2.1.kept hst.2 (fun h => by have h1 := hm _ h; have h2 := hf.1; omega)
    · exact hf.2.2.1
    · refine hf.2.2.2.kept hst.2 ?_
      intro hx
      unfold rNiMods at hx
      split at hx <;> first | exact absurd rfl hne | exact hni (by decide) | (simp at hx; done) | (simp at hx; omega)
  | 16 => trivial
  | 17 => trivial
  | 18 =>
    refine ⟨?_, ?_, ?_, ?_, ?_, ?_⟩
    · exact hf.1
    · exact hf.2.1.kept hst.2 (fun h => by have h1 := hm _ h; have h2 := hf.1; omega)
    · exact hf.2.2.1
    · exact hf.2.2.2.1
    · exact hf.2.2.2.2.1
    · exact hf.2.2.2.2.2
  | 19 => trivial
  | 20 => trivial
  | 21 => trivial
  | 22 =>
    refine hf.kept hst.2 ?_
    intro hx
    unfold rNiMods at hx
    split at hx <;> first | exact absurd rfl hne | exact hni (by decide) | (simp at hx; done) | (simp at hx; omega)
  | n + 23 => trivial
theorem rNi_hGs (B N pb ib sb i c : Nat) (loc l0 lr src : Int) (rT rb : Nat) (C : Array Value) (hBN : B + 8 ≤ N) (hsB : sb < B) (W : World) : ∀ ii L α u u', L ii = false → (∀ j, L j = true → ∀ i, i ∈ rNiAnc j → L i = true) → (∀ j, j ∈ rNiAnc ii → L j = true) → rNiStep B N pb ib sb i c loc l0 lr src rT rb C ii α u u' → rNiG B N pb ib sb i c loc l0 lr src rT rb C W L u → rNiG B N pb ib sb i c loc l0 lr src rT rb C W (Rega.ran L ii) u' := by
  intro ii L α u u' hLi hcl hai hst hG
  obtain ⟨hk, g0, g1⟩ := hG
  refine ⟨hk.trans (hst.2.mono (fun x hx => by unfold rNiMods at hx; split at hx <;> simp at hx <;> simp [hx])), ?_, ?_⟩
  · intro hg
    have hik : ii ≠ 4 := by rintro rfl; simp [Rega.ran] at hg
    have hLn : L 4 = false := by simpa [Rega.ran, Ne.symm hik] using hg
    refine (g0 hLn).kept hst.2 ?_
    intro hx
    unfold rNiMods at hx
    split at hx <;> first | exact absurd rfl hik | exact absurd (hai 4 (by decide)) (by rw [hLn]; decide) | (simp at hx; done) | (simp at hx; omega)
  · intro hg
    have hik : ii ≠ 22 := by rintro rfl; simp [Rega.ran] at hg
    have hLn : L 22 = false := by simpa [Rega.ran, Ne.symm hik] using hg
    refine (g1 hLn).kept hst.2 ?_
    intro hx
    unfold rNiMods at hx
    split at hx <;> first | exact absurd rfl hik | exact absurd (hai 22 (by decide)) (by rw [hLn]; decide) | (simp at hx; done) | (simp at hx; omega)

def LowIdent (sb i c : Nat) (loc lr src : Int) (rT rb : Nat) (C : Array Value) (w : World) (e : Ending) (w' : World) : Prop :=
  ∃ bi bt b1 b2 bn, e = .returned (.agg #[.iface 39 (.pointer (some ⟨bi, 0, none⟩)), .int .i32 loc]) ∧ Base.KeptBut [sb] w w' ∧ Base.RowAt w' sb 223 ((C.setIfInBounds (i * 10 + 4) (.int .u32 ((c + 1 : Nat) : Int))).setIfInBounds (i * 10 + 4) (.int .u32 ((c + 1 + 1 : Nat) : Int))) ∧ w.heap.size ≤ bi ∧ w.heap.size ≤ bt ∧ w.heap.size ≤ b1 ∧ b1 < b2 ∧ w.heap.size ≤ bn ∧
    Base.RowAt w' bi 44 #[.iface 41 (.pointer (some ⟨bt, 0, none⟩)), .int .i32 loc, .iface 55 (.pointer (some ⟨b2, 0, none⟩)), .int .i32 loc, .iface rT (.pointer (some ⟨rb, 0, none⟩)), .int .i32 lr] ∧
    Base.RowAt w' bt 47 #[.iface 55 (.pointer (some ⟨b1, 0, none⟩)), .int .i32 loc, .iface 211 (.pointer (some ⟨bn, 0, none⟩)), .int .i32 loc, .int .u8 27, .bool false] ∧
    Base.RowAt w' b1 214 #[.int .u32 src, .int .u32 (i : Int), .bool false, .bool false, .bool false] ∧ Base.RowAt w' b2 214 #[.int .u32 src, .int .u32 (i : Int), .bool false, .bool false, .bool false] ∧ Base.RowAt w' bn 235 #[]
set_option maxRecDepth 100000 in
set_option maxHeartbeats 2000000 in
theorem lowIdent (pb ib sb n cap i c : Nat) (loc l0 lr src : Int) (rT rb : Nat) (C : Array Value) (w : World) (hP : ParAt w pb sb n cap) (hi : i < n) (hn : n ≤ 4294967295) (hne : pb ≠ sb)
    (hC : Base.RowAt w sb 223 C) (hc : C[i * 10 + 4]? = some (.int .u32 (c : Int))) (hcm : c < 4294967294)
    (ri : Base.RowAt w ib 214 #[.int .u32 src, .int .u32 (i : Int), .bool false, .bool false, .bool false]) (hib : ib ≠ sb) :
    Calls Tryd.prog 35 #[.pointer (some ⟨pb, 0, none⟩), .agg #[.int .i32 loc], .agg #[.iface 55 (.pointer (some ⟨ib, 0, none⟩)), .int .i32 l0], .agg #[.iface rT (.pointer (some ⟨rb, 0, none⟩)), .int .i32 lr]] w (LowIdent sb i c loc lr src rT rb C w) := by
  have l0' := ri.lt
  have lsb := hC.lt
  have lpb := hP.lt
  have Hc1 := Lib.hid (set_get hc (.int .u32 ((c + 1 : Nat) : Int)))
  have Hc := Lib.hid hc
  clear hc
  go_enter Tryd.func35, Tryd.ntmps35
  go_wp2
  generalize hW : World.alloc _ _ = W
  have hz : w.heap.size + 8 ≤ W.heap.size := by rw [← hW]; simp <;> omega
  have hbW : Below w.heap.size w W := by rw [← hW]; go_grown
  have r0 : Base.RowAt W (w.heap.size) 32 #[.int .i32 loc] := by
    rw [← hW]
    repeat (first | (refine Base.RowAt.new' _ _ _ _ ?_; simp; done) | refine Base.RowAt.drew ?_ | refine Base.RowAt.alloc ?_ _)
  have r1 : Base.RowAt W (w.heap.size + 1) 34 #[.iface 55 (.pointer (some ⟨ib, 0, none⟩)), .int .i32 l0] := by
    rw [← hW]
    repeat (first | (refine Base.RowAt.new' _ _ _ _ ?_; simp; done) | refine Base.RowAt.drew ?_ | refine Base.RowAt.alloc ?_ _)
  have r2 : Base.RowAt W (w.heap.size + 1 + 1) 34 #[.iface rT (.pointer (some ⟨rb, 0, none⟩)), .int .i32 lr] := by
    rw [← hW]
    repeat (first | (refine Base.RowAt.new' _ _ _ _ ?_; simp; done) | refine Base.RowAt.drew ?_ | refine Base.RowAt.alloc ?_ _)
  have r3 : Base.RowAt W (w.heap.size + 1 + 1 + 1) 34 #[.nilIface, .int .i32 0] := by
    rw [← hW]
    repeat (first | (refine Base.RowAt.new' _ _ _ _ ?_; simp; done) | refine Base.RowAt.drew ?_ | refine Base.RowAt.alloc ?_ _)
  have r4 : Base.RowAt W (w.heap.size + 1 + 1 + 1 + 1) 23 #[.pointer (some ⟨pb, 0, none⟩)] := by
    rw [← hW]
    repeat (first | (refine Base.RowAt.new' _ _ _ _ ?_; simp; done) | refine Base.RowAt.drew ?_ | refine Base.RowAt.alloc ?_ _)
  have r5 : Base.RowAt W (w.heap.size + 1 + 1 + 1 + 1 + 1) 32 #[.int .i32 loc] := by
    rw [← hW]
    repeat (first | (refine Base.RowAt.new' _ _ _ _ ?_; simp; done) | refine Base.RowAt.drew ?_ | refine Base.RowAt.alloc ?_ _)
  have r6 : Base.RowAt W (w.heap.size + 1 + 1 + 1 + 1 + 1 + 1) 34 #[.iface 55 (.pointer (some ⟨ib, 0, none⟩)), .int .i32 l0] := by
    rw [← hW]
    repeat (first | (refine Base.RowAt.new' _ _ _ _ ?_; simp; done) | refine Base.RowAt.drew ?_ | refine Base.RowAt.alloc ?_ _)
  have r7 : Base.RowAt W (w.heap.size + 1 + 1 + 1 + 1 + 1 + 1 + 1) 55 #[.pointer (some ⟨ib, 0, none⟩)] := by
    rw [← hW]
    repeat (first | (refine Base.RowAt.new' _ _ _ _ ?_; simp; done) | refine Base.RowAt.drew ?_ | refine Base.RowAt.alloc ?_ _)
  clear hW
  obtain ⟨B, hB⟩ : ∃ B, B = w.heap.size := ⟨_, rfl⟩
  obtain ⟨N, hNe⟩ : ∃ N, N = W.heap.size := ⟨_, rfl⟩
  have hNW : N ≤ W.heap.size := Nat.le_of_eq hNe
  have hBN : B + 8 ≤ N := by omega
  have HNe := Lib.hid hNe
  rw [← hB] at r0 r1 r2 r3 r4 r5 r6 r7 ⊢
  have HB := Lib.hid hB
  clear hB hNe
  have hP := hP.below hbW lpb
  have hC := hC.below hbW lsb
  have ri := ri.below hbW l0'
  have hsB : sb < B := by have := HB.out; omega
  have hpB : pb < B := by have := HB.out; omega
  have hiB : ib < B := by have := HB.out; omega
  refine Rega.wp_region_atoms (e := rNiE B N pb ib sb i c loc l0 lr src rT rb C) (F := rNiF B N pb ib sb i c loc l0 lr src rT rb C) (anc := rNiAnc) (G := rNiG B N pb ib sb i c loc l0 lr src rT rb C W) (Step := rNiStep B N pb ib sb i c loc l0 lr src rT rb C) (by kernel_rfl) (by kernel_rfl) (by kernel_rfl) (by kernel_rfl) (rNi_he B N pb ib sb i c loc l0 lr src rT rb C) (rNi_hF B N pb ib sb i c loc l0 lr src rT rb C) (rNi_hFs B N pb ib sb i c loc l0 lr src rT rb C hBN hsB) (rNi_hGs B N pb ib sb i c loc l0 lr src rT rb C hBN hsB W) ⟨(Base.KeptBut.refl _ _).drew, fun _ => hC.drew, fun _ => r3.drew⟩ (Rega.RunsAll.all ?_) ?_
  · refine ⟨?_, ?_, ?_, ?_, ?_, ?_, ?_, ?_, ?_, ?_, ?_, ?_, ?_, ?_, ?_, ?_, ?_, ?_, ?_, ?_, ?_, ?_, ?_, trivial⟩
    · intro L α a u K hL hcl hG hA hS h0 hK
      have q10 : a.tmps[10]? = some (.func (Fn.func 50) #[] #[.pointer (some ⟨B + 1 + 1 + 1 + 1 + 1 + 1, 0, none⟩)]) := (h0 10 (by kernel_rfl)).trans rfl
      have s10 := Rega.eval_of q10
      go_simp
      exact hK _ α _ (fun _ _ => rfl) rfl trivial ⟨by decide, .refl _ _⟩
    · intro L α a u K hL hcl hG hA hS h0 hK
      have q5 : a.tmps[5]? = some (.pointer (some ⟨B, 0, none⟩)) := (h0 5 (by kernel_rfl)).trans rfl
      have s5 := Rega.eval_of q5
      have c0 : u.cell? ⟨B, 0, none⟩ = some (.int .i32 loc) := hG.1.cell_some (r0.cell rfl) (by simp <;> omega)
      go_simp
      exact hK _ α _ (fun _ _ => rfl) rfl trivial ⟨by decide, .refl _ _⟩
    · intro L α a u K hL hcl hG hA hS h0 hK
      have q5 : a.tmps[5]? = some (.pointer (some ⟨B, 0, none⟩)) := (h0 5 (by kernel_rfl)).trans rfl
      have s5 := Rega.eval_of q5
      have c0 : u.cell? ⟨B, 0, none⟩ = some (.int .i32 loc) := hG.1.cell_some (r0.cell rfl) (by simp <;> omega)
      go_simp
      exact hK _ α _ (fun _ _ => rfl) rfl trivial ⟨by decide, .refl _ _⟩
    · intro L α a u K hL hcl hG hA hS h0 hK
      have q9 : a.tmps[9]? = some (.func (Fn.func 59) #[] #[.pointer (some ⟨B + 1 + 1 + 1 + 1, 0, none⟩), .pointer (some ⟨B + 1 + 1 + 1 + 1 + 1 + 1 + 1, 0, none⟩), .pointer (some ⟨B + 1 + 1 + 1 + 1 + 1, 0, none⟩)]) := (h0 9 (by kernel_rfl)).trans rfl
      have s9 := Rega.eval_of q9
      go_simp
      exact hK _ α _ (fun _ _ => rfl) rfl trivial ⟨by decide, .refl _ _⟩
    · intro L α a u K hL hcl hG hA hS h0 hK
      have q21 : a.tmps[21]? = some (.func (Fn.func 59) #[] #[.pointer (some ⟨B + 1 + 1 + 1 + 1, 0, none⟩), .pointer (some ⟨B + 1 + 1 + 1 + 1 + 1 + 1 + 1, 0, none⟩), .pointer (some ⟨B + 1 + 1 + 1 + 1 + 1, 0, none⟩)]) := hS 3 21 (by decide) rfl (by show 21 < 40; decide)
      have s21 := Rega.eval_of q21
      go_simp
      have hrs := (hG.2.1 hL)
      refine Calls.mono (identFn (B + 1 + 1 + 1 + 1) (B + 1 + 1 + 1 + 1 + 1 + 1 + 1) (B + 1 + 1 + 1 + 1 + 1) ib pb sb n cap i (c) src loc C _ (hP.kept hG.1 (by simp <;> omega)) hi hn hne hrs Hc.out (by omega) (hG.1.cell_some (r4.cell rfl) (by simp <;> omega)) (hG.1.cell_some (r7.cell rfl) (by simp <;> omega)) (hG.1.cell_some (r5.cell rfl) (by simp <;> omega)) (hG.1.cell_some (ri.cell rfl) (by simp <;> omega)) (hG.1.cell_some (ri.cell rfl) (by simp <;> omega)) (by omega) (by omega) (by omega) hib) ?_
      rintro e u1 ⟨b, rfl, hlo, ⟨hk1, hk2⟩, hr⟩
      exact hK _ (fun j => if j = 4 then b else α j) _ (fun j hj => if_neg (by omega)) rfl ⟨Nat.le_trans (Nat.le_trans hNW hG.1.size) hlo, hr, fun _ => hk2⟩ ⟨by decide, hk1⟩
    · intro L α a u K hL hcl hG hA hS h0 hK
      have q5 : a.tmps[5]? = some (.pointer (some ⟨B, 0, none⟩)) := (h0 5 (by kernel_rfl)).trans rfl
      have s5 := Rega.eval_of q5
      have c0 : u.cell? ⟨B, 0, none⟩ = some (.int .i32 loc) := hG.1.cell_some (r0.cell rfl) (by simp <;> omega)
      go_simp
      exact hK _ α _ (fun _ _ => rfl) rfl trivial ⟨by decide, .refl _ _⟩
    · intro L α a u K hL hcl hG hA hS h0 hK
      go_simp
      exact hK _ α _ (fun _ _ => rfl) rfl trivial ⟨by decide, .refl _ _⟩
    · intro L α a u K hL hcl hG hA hS h0 hK
      have q24 : a.tmps[24]? = some (.agg #[]) := hS 6 24 (by decide) rfl (by show 24 < 40; decide)
      have s24 := Rega.eval_of q24
      go_simp
      exact hK _ (fun j => if j = 7 then u.heap.size else α j) _ (fun j hj => if_neg (by omega)) rfl ⟨Nat.le_trans hNW hG.1.size, Base.RowAt.new u _ _⟩ ⟨by decide, (Base.KeptBut.refl _ _).alloc _⟩
    · intro L α a u K hL hcl hG hA hS h0 hK
      have q25 : a.tmps[25]? = some (.pointer (some ⟨α 7, 0, none⟩)) := hS 7 25 (by decide) rfl (by show 25 < 40; decide)
      have s25 := Rega.eval_of q25
      go_simp
      exact hK _ α _ (fun _ _ => rfl) rfl trivial ⟨by decide, .refl _ _⟩
    · intro L α a u K hL hcl hG hA hS h0 hK
      have q23 : a.tmps[23]? = some (.agg #[.int .i32 loc]) := hS 5 23 (by decide) rfl (by show 23 < 40; decide)
      have s23 := Rega.eval_of q23
      have q26 : a.tmps[26]? = some (.iface 211 (.pointer (some ⟨α 7, 0, none⟩))) := hS 8 26 (by decide) rfl (by show 26 < 40; decide)
      have s26 := Rega.eval_of q26
      go_simp
      exact hK _ α _ (fun _ _ => rfl) rfl trivial ⟨by decide, .refl _ _⟩
    · intro L α a u K hL hcl hG hA hS h0 hK
      have q22 : a.tmps[22]? = some (.agg #[.iface 55 (.pointer (some ⟨α 4, 0, none⟩)), .int .i32 loc]) := hS 4 22 (by decide) rfl (by show 22 < 40; decide)
      have s22 := Rega.eval_of q22
      have q27 : a.tmps[27]? = some (.agg #[.iface 211 (.pointer (some ⟨α 7, 0, none⟩)), .int .i32 loc]) := hS 9 27 (by decide) rfl (by show 27 < 40; decide)
      have s27 := Rega.eval_of q27
      go_simp
      exact hK _ α _ (fun _ _ => rfl) rfl trivial ⟨by decide, .refl _ _⟩
    · intro L α a u K hL hcl hG hA hS h0 hK
      have q28 : a.tmps[28]? = some (.agg #[.iface 55 (.pointer (some ⟨α 4, 0, none⟩)), .int .i32 loc, .iface 211 (.pointer (some ⟨α 7, 0, none⟩)), .int .i32 loc, .int .u8 27, .bool false]) := hS 10 28 (by decide) rfl (by show 28 < 40; decide)
      have s28 := Rega.eval_of q28
      have l4 : α 4 < u.heap.size := (hA 4 (by decide)).2.2.1.lt
      have l7 : α 7 < u.heap.size := (hA 7 (by decide)).2.2.lt
      go_simp
      exact hK _ (fun j => if j = 11 then u.heap.size else α j) _ (fun j hj => if_neg (by omega)) rfl ⟨Nat.le_trans hNW hG.1.size, Base.RowAt.new u _ _, l4, l7⟩ ⟨by decide, (Base.KeptBut.refl _ _).alloc _⟩
    · intro L α a u K hL hcl hG hA hS h0 hK
      have q29 : a.tmps[29]? = some (.pointer (some ⟨α 11, 0, none⟩)) := hS 11 29 (by decide) rfl (by show 29 < 40; decide)
      have s29 := Rega.eval_of q29
      go_simp
      exact hK _ α _ (fun _ _ => rfl) rfl trivial ⟨by decide, .refl _ _⟩
    · intro L α a u K hL hcl hG hA hS h0 hK
      have q20 : a.tmps[20]? = some (.agg #[.int .i32 loc]) := hS 2 20 (by decide) rfl (by show 20 < 40; decide)
      have s20 := Rega.eval_of q20
      have q30 : a.tmps[30]? = some (.iface 41 (.pointer (some ⟨α 11, 0, none⟩))) := hS 12 30 (by decide) rfl (by show 30 < 40; decide)
      have s30 := Rega.eval_of q30
      go_simp
      exact hK _ α _ (fun _ _ => rfl) rfl trivial ⟨by decide, .refl _ _⟩
    · intro L α a u K hL hcl hG hA hS h0 hK
      have q9 : a.tmps[9]? = some (.func (Fn.func 59) #[] #[.pointer (some ⟨B + 1 + 1 + 1 + 1, 0, none⟩), .pointer (some ⟨B + 1 + 1 + 1 + 1 + 1 + 1 + 1, 0, none⟩), .pointer (some ⟨B + 1 + 1 + 1 + 1 + 1, 0, none⟩)]) := (h0 9 (by kernel_rfl)).trans rfl
      have s9 := Rega.eval_of q9
      go_simp
      exact hK _ α _ (fun _ _ => rfl) rfl trivial ⟨by decide, .refl _ _⟩
    · intro L α a u K hL hcl hG hA hS h0 hK
      have q32 : a.tmps[32]? = some (.func (Fn.func 59) #[] #[.pointer (some ⟨B + 1 + 1 + 1 + 1, 0, none⟩), .pointer (some ⟨B + 1 + 1 + 1 + 1 + 1 + 1 + 1, 0, none⟩), .pointer (some ⟨B + 1 + 1 + 1 + 1 + 1, 0, none⟩)]) := hS 14 32 (by decide) rfl (by show 32 < 40; decide)
      have s32 := Rega.eval_of q32
      go_simp
      have hrs := ((hA 4 (by decide)).2.2.2 hL)
      have l4 : α 4 < u.heap.size := (hA 4 (by decide)).2.2.1.lt
      refine Calls.mono (identFn (B + 1 + 1 + 1 + 1) (B + 1 + 1 + 1 + 1 + 1 + 1 + 1) (B + 1 + 1 + 1 + 1 + 1) ib pb sb n cap i (c + 1) src loc (C.setIfInBounds (i * 10 + 4) (.int .u32 ((c + 1 : Nat) : Int))) _ (hP.kept hG.1 (by simp <;> omega)) hi hn hne hrs Hc1.out (by omega) (hG.1.cell_some (r4.cell rfl) (by simp <;> omega)) (hG.1.cell_some (r7.cell rfl) (by simp <;> omega)) (hG.1.cell_some (r5.cell rfl) (by simp <;> omega)) (hG.1.cell_some (ri.cell rfl) (by simp <;> omega)) (hG.1.cell_some (ri.cell rfl) (by simp <;> omega)) (by omega) (by omega) (by omega) hib) ?_
      rintro e u1 ⟨b, rfl, hlo, ⟨hk1, hk2⟩, hr⟩
      exact hK _ (fun j => if j = 15 then b else α j) _ (fun j hj => if_neg (by omega)) rfl ⟨Nat.le_trans (Nat.le_trans hNW hG.1.size) hlo, hr, Nat.lt_of_lt_of_le l4 hlo, hk2⟩ ⟨by decide, hk1⟩
    · intro L α a u K hL hcl hG hA hS h0 hK
      have q7 : a.tmps[7]? = some (.pointer (some ⟨B + 1 + 1, 0, none⟩)) := (h0 7 (by kernel_rfl)).trans rfl
      have s7 := Rega.eval_of q7
      have c0 : u.cell? ⟨B + 1 + 1, 0, none⟩ = some (.iface rT (.pointer (some ⟨rb, 0, none⟩))) := hG.1.cell_some (r2.cell rfl) (by simp <;> omega)
      have c1 : u.cell? ⟨B + 1 + 1, 1, none⟩ = some (.int .i32 lr) := hG.1.cell_some (r2.cell rfl) (by simp <;> omega)
      go_simp
      exact hK _ α _ (fun _ _ => rfl) rfl trivial ⟨by decide, .refl _ _⟩
    · intro L α a u K hL hcl hG hA hS h0 hK
      have q31 : a.tmps[31]? = some (.agg #[.iface 41 (.pointer (some ⟨α 11, 0, none⟩)), .int .i32 loc]) := hS 13 31 (by decide) rfl (by show 31 < 40; decide)
      have s31 := Rega.eval_of q31
      have q33 : a.tmps[33]? = some (.agg #[.iface 55 (.pointer (some ⟨α 15, 0, none⟩)), .int .i32 loc]) := hS 15 33 (by decide) rfl (by show 33 < 40; decide)
      have s33 := Rega.eval_of q33
      have q34 : a.tmps[34]? = some (.agg #[.iface rT (.pointer (some ⟨rb, 0, none⟩)), .int .i32 lr]) := hS 16 34 (by decide) rfl (by show 34 < 40; decide)
      have s34 := Rega.eval_of q34
      go_simp
      exact hK _ α _ (fun _ _ => rfl) rfl trivial ⟨by decide, .refl _ _⟩
    · intro L α a u K hL hcl hG hA hS h0 hK
      have q35 : a.tmps[35]? = some (.agg #[.iface 41 (.pointer (some ⟨α 11, 0, none⟩)), .int .i32 loc, .iface 55 (.pointer (some ⟨α 15, 0, none⟩)), .int .i32 loc, .iface rT (.pointer (some ⟨rb, 0, none⟩)), .int .i32 lr]) := hS 17 35 (by decide) rfl (by show 35 < 40; decide)
      have s35 := Rega.eval_of q35
      have l4 : α 4 < u.heap.size := (hA 4 (by decide)).2.2.1.lt
      have l7 : α 7 < u.heap.size := (hA 7 (by decide)).2.2.lt
      have l11 : α 11 < u.heap.size := (hA 11 (by decide)).2.2.1.lt
      have l15 : α 15 < u.heap.size := (hA 15 (by decide)).2.2.1.lt
      go_simp
      exact hK _ (fun j => if j = 18 then u.heap.size else α j) _ (fun j hj => if_neg (by omega)) rfl ⟨Nat.le_trans hNW hG.1.size, Base.RowAt.new u _ _, l4, l7, l11, l15⟩ ⟨by decide, (Base.KeptBut.refl _ _).alloc _⟩
    · intro L α a u K hL hcl hG hA hS h0 hK
      have q36 : a.tmps[36]? = some (.pointer (some ⟨α 18, 0, none⟩)) := hS 18 36 (by decide) rfl (by show 36 < 40; decide)
      have s36 := Rega.eval_of q36
      go_simp
      exact hK _ α _ (fun _ _ => rfl) rfl trivial ⟨by decide, .refl _ _⟩
    · intro L α a u K hL hcl hG hA hS h0 hK
      have q19 : a.tmps[19]? = some (.agg #[.int .i32 loc]) := hS 1 19 (by decide) rfl (by show 19 < 40; decide)
      have s19 := Rega.eval_of q19
      have q37 : a.tmps[37]? = some (.iface 39 (.pointer (some ⟨α 18, 0, none⟩))) := hS 19 37 (by decide) rfl (by show 37 < 40; decide)
      have s37 := Rega.eval_of q37
      go_simp
      exact hK _ α _ (fun _ _ => rfl) rfl trivial ⟨by decide, .refl _ _⟩
    · intro L α a u K hL hcl hG hA hS h0 hK
      have q18 : a.tmps[18]? = some (.func (Fn.func 50) #[] #[.pointer (some ⟨B + 1 + 1 + 1 + 1 + 1 + 1, 0, none⟩)]) := hS 0 18 (by decide) rfl (by show 18 < 40; decide)
      have s18 := Rega.eval_of q18
      have q38 : a.tmps[38]? = some (.agg #[.iface 39 (.pointer (some ⟨α 18, 0, none⟩)), .int .i32 loc]) := hS 20 38 (by decide) rfl (by show 38 < 40; decide)
      have s38 := Rega.eval_of q38
      go_simp
      refine Calls.mono (l131.cWrap _ _ _ _ _) ?_
      rintro e u1 ⟨rfl, hb⟩
      exact hK _ α _ (fun _ _ => rfl) rfl trivial ⟨by decide, Base.KeptBut.of_below hb⟩
    · intro L α a u K hL hcl hG hA hS h0 hK
      have q8 : a.tmps[8]? = some (.pointer (some ⟨B + 1 + 1 + 1, 0, none⟩)) := (h0 8 (by kernel_rfl)).trans rfl
      have s8 := Rega.eval_of q8
      have q39 : a.tmps[39]? = some (.agg #[.iface 39 (.pointer (some ⟨α 18, 0, none⟩)), .int .i32 loc]) := hS 21 39 (by decide) rfl (by show 39 < 40; decide)
      have s39 := Rega.eval_of q39
      have hr := (hG.2.2 hL)
      have x0 : u.cell? ⟨B + 1 + 1 + 1, 0, none⟩ = some (.nilIface) := hr.cell rfl
      have y0 : u.frozen? ⟨B + 1 + 1 + 1, 0, none⟩ = false := hr.free 0
      have x1 : u.cell? ⟨B + 1 + 1 + 1, 1, none⟩ = some (.int .i32 0) := hr.cell rfl
      have y1 : u.frozen? ⟨B + 1 + 1 + 1, 1, none⟩ = false := hr.free 1
      have HR := Lib.hid hr
      clear hr
      go_simp
      exact hK _ α _ (fun _ _ => rfl) rfl ((HR.out.set 0 _).set 1 _) ⟨by decide, ((Base.KeptBut.refl _ _).setCell (Or.inl (by simp [rNiMods])) _).setCell (Or.inl (by simp [rNiMods])) _⟩
  · intro α u hG hF
    have f4_0 : N ≤ α 4 := (hF 4 (by decide)).1
    have f4_1 : Base.RowAt u (α 4) 214 #[.int .u32 src, .int .u32 (i : Int), .bool false, .bool false, .bool false] := (hF 4 (by decide)).2.1
    have f7_0 : N ≤ α 7 := (hF 7 (by decide)).1
    have f7_1 : Base.RowAt u (α 7) 235 #[] := (hF 7 (by decide)).2
    have f11_0 : N ≤ α 11 := (hF 11 (by decide)).1
    have f11_1 : Base.RowAt u (α 11) 47 #[.iface 55 (.pointer (some ⟨α 4, 0, none⟩)), .int .i32 loc, .iface 211 (.pointer (some ⟨α 7, 0, none⟩)), .int .i32 loc, .int .u8 27, .bool false] := (hF 11 (by decide)).2.1
    have f11_2 : α 4 < α 11 := (hF 11 (by decide)).2.2.1
    have f11_3 : α 7 < α 11 := (hF 11 (by decide)).2.2.2
    have f15_0 : N ≤ α 15 := (hF 15 (by decide)).1
    have f15_1 : Base.RowAt u (α 15) 214 #[.int .u32 src, .int .u32 (i : Int), .bool false, .bool false, .bool false] := (hF 15 (by decide)).2.1
    have f15_2 : α 4 < α 15 := (hF 15 (by decide)).2.2.1
    have f15_3 : Base.RowAt u sb 223 ((C.setIfInBounds (i * 10 + 4) (.int .u32 ((c + 1 : Nat) : Int))).setIfInBounds (i * 10 + 4) (.int .u32 ((c + 1 + 1 : Nat) : Int))) := (hF 15 (by decide)).2.2.2
    have f18_0 : N ≤ α 18 := (hF 18 (by decide)).1
    have f18_1 : Base.RowAt u (α 18) 44 #[.iface 41 (.pointer (some ⟨α 11, 0, none⟩)), .int .i32 loc, .iface 55 (.pointer (some ⟨α 15, 0, none⟩)), .int .i32 loc, .iface rT (.pointer (some ⟨rb, 0, none⟩)), .int .i32 lr] := (hF 18 (by decide)).2.1
    have f18_2 : α 4 < α 18 := (hF 18 (by decide)).2.2.1
    have f18_3 : α 7 < α 18 := (hF 18 (by decide)).2.2.2.1
    have f18_4 : α 11 < α 18 := (hF 18 (by decide)).2.2.2.2.1
    have f18_5 : α 15 < α 18 := (hF 18 (by decide)).2.2.2.2.2
    have f22_0 : Base.RowAt u (B + 1 + 1 + 1) 34 #[.iface 39 (.pointer (some ⟨α 18, 0, none⟩)), .int .i32 loc] := (hF 22 (by decide))
    clear hF
    generalize hfr : Rega.frameAt _ _ _ _ _ = fr
    have q8 : fr.tmps[8]? = some (.pointer (some ⟨B + 1 + 1 + 1, 0, none⟩)) := by rw [← hfr]; kernel_rfl
    have hdf : fr.defers = [] := by rw [← hfr]; kernel_rfl
    clear hfr
    have z0 : u.cell? ⟨B + 1 + 1 + 1, 0, none⟩ = some (.iface 39 (.pointer (some ⟨α 18, 0, none⟩))) := f22_0.cell rfl
    have z1 : u.cell? ⟨B + 1 + 1 + 1, 1, none⟩ = some (.int .i32 loc) := f22_0.cell rfl
    go_wp2
    have hB := HB.out
    have hkb := hG.1
    have hk : Base.KeptBut [sb] w u := by
      refine ⟨hkb.os.trans hbW.os, hkb.tape.trans hbW.tape, hkb.output.trans hbW.output, Nat.le_trans hbW.size hkb.size, fun k hk hn => ?_⟩
      exact (hkb.block k (by omega) (by simp at hn ⊢; omega)).trans (hbW.block k hk)
    refine bodyPost_ret (v := .agg #[.iface 39 (.pointer (some ⟨α 18, 0, none⟩)), .int .i32 loc]) ?_ hdf ?_
    · simp [results, Tryd.results35, go_sem, q8, z0, z1]
    · exact ⟨α 18, α 11, α 4, α 15, α 7, rfl, hk, f15_3, by omega, by omega, by omega, f15_2, by omega, f18_1, f11_1, f4_1, f15_1, f7_1⟩
end Go.Proofs.YtlgefnjkoklboaaDoor.Use
