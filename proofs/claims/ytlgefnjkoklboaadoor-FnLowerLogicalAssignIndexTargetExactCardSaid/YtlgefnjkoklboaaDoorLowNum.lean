/- The lowering of a nullish coalescing whose left side is a number, walked. No condition. -/
import Derived.Test.YtlgefnjkoklboaaDoorRows
import Derived.Test.YtlgefnjkoklboaaDoorReg
import Derived.RegionTactic
import Derived.Outline
namespace Go.Proofs.YtlgefnjkoklboaaDoor.l131
open Go.ChangeShapes Go.WideShapes Go.ChangeAt Go.RowKit Go.Sort
set_option linter.unusedVariables false

def NumMade (loc : Int) (v : Nat) (w : World) (e : Ending) (w' : World) : Prop :=
  ∃ b, e = .returned (.agg #[.iface 36 (.pointer (some ⟨b, 0, none⟩)), .int .i32 loc]) ∧ Below w.heap.size w w' ∧ w.heap.size ≤ b ∧ Base.RowAt w' b 50 #[.float .f64 v]

theorem cNum (lb eb nb : Nat) (loc : Int) (v : Nat) (w : World) (h0 : w.cell? ⟨lb, 0, none⟩ = some (.int .i32 loc)) (h1 : w.cell? ⟨eb, 0, none⟩ = some (.pointer (some ⟨nb, 0, none⟩)))
    (h2 : w.cell? ⟨nb, 0, none⟩ = some (.float .f64 v)) :
    Calls Tryd.prog 55 #[.pointer (some ⟨lb, 0, none⟩), .pointer (some ⟨eb, 0, none⟩)] w (NumMade loc v w) := by
  have k0 := Base.block_of_cell h0
  have k1 := Base.block_of_cell h1
  have k2 := Base.block_of_cell h2
  go_enter Tryd.func55, Tryd.ntmps55
  go_wp2
  go_region
  go_wp2
  go_returns
  exact ⟨w.heap.size + 1, rfl, by go_grown, by omega, (Base.RowAt.new' _ _ _ _ (by simp)).drew⟩

/-- wrapFunc: an expression that is there is handed back. -/
theorem cWrap (xb : Nat) (T : TypeId) (p : Value) (loc : Int) (w : World) :
    Calls Tryd.prog 50 #[.agg #[.iface T p, .int .i32 loc], .pointer (some ⟨xb, 0, none⟩)] w fun e w' => e = .returned (.agg #[.iface T p, .int .i32 loc]) ∧ Below w.heap.size w w' := by
  go_enter Tryd.func50, Tryd.ntmps50
  go_wp2
  go_returns
  exact ⟨rfl, by go_grown⟩

def rNumE (B N : Nat) (loc lr : Int) (v : Nat) (rT : TypeId) (rb : Nat) : Nat → Reg.Atoms → Value
  | 0, α => .func (Fn.func 50) #[] #[.pointer (some ⟨B + 1 + 1 + 1 + 1 + 1 + 1, 0, none⟩)]
  | 1, α => .agg #[.int .i32 loc]
  | 2, α => .agg #[.int .i32 loc]
  | 3, α => .func (Fn.func 55) #[] #[.pointer (some ⟨B + 1 + 1 + 1 + 1 + 1, 0, none⟩), .pointer (some ⟨B + 1 + 1 + 1 + 1 + 1 + 1 + 1, 0, none⟩)]
  | 4, α => .agg #[.iface 36 (.pointer (some ⟨α 4, 0, none⟩)), .int .i32 loc]
  | 5, α => .agg #[.int .i32 loc]
  | 6, α => .agg #[]
  | 7, α => .pointer (some ⟨α 7, 0, none⟩)
  | 8, α => .iface 211 (.pointer (some ⟨α 7, 0, none⟩))
  | 9, α => .agg #[.iface 211 (.pointer (some ⟨α 7, 0, none⟩)), .int .i32 loc]
  | 10, α => .agg #[.iface 36 (.pointer (some ⟨α 4, 0, none⟩)), .int .i32 loc, .iface 211 (.pointer (some ⟨α 7, 0, none⟩)), .int .i32 loc, .int .u8 27, .bool false]
  | 11, α => .pointer (some ⟨α 11, 0, none⟩)
  | 12, α => .iface 41 (.pointer (some ⟨α 11, 0, none⟩))
  | 13, α => .agg #[.iface 41 (.pointer (some ⟨α 11, 0, none⟩)), .int .i32 loc]
  | 14, α => .func (Fn.func 55) #[] #[.pointer (some ⟨B + 1 + 1 + 1 + 1 + 1, 0, none⟩), .pointer (some ⟨B + 1 + 1 + 1 + 1 + 1 + 1 + 1, 0, none⟩)]
  | 15, α => .agg #[.iface 36 (.pointer (some ⟨α 15, 0, none⟩)), .int .i32 loc]
  | 16, α => .agg #[.iface rT (.pointer (some ⟨rb, 0, none⟩)), .int .i32 lr]
  | 17, α => .agg #[.iface 41 (.pointer (some ⟨α 11, 0, none⟩)), .int .i32 loc, .iface 36 (.pointer (some ⟨α 15, 0, none⟩)), .int .i32 loc, .iface rT (.pointer (some ⟨rb, 0, none⟩)), .int .i32 lr]
  | 18, α => .pointer (some ⟨α 18, 0, none⟩)
  | 19, α => .iface 39 (.pointer (some ⟨α 18, 0, none⟩))
  | 20, α => .agg #[.iface 39 (.pointer (some ⟨α 18, 0, none⟩)), .int .i32 loc]
  | 21, α => .agg #[.iface 39 (.pointer (some ⟨α 18, 0, none⟩)), .int .i32 loc]
  | 22, α => undef
  | _, _ => undef
def rNumF (B N : Nat) (loc lr : Int) (v : Nat) (rT : TypeId) (rb : Nat) : Nat → (Nat → Bool) → Reg.Atoms → World → Prop
  | 4, L, α, w => Base.RowAt w (α 4) 50 #[.float .f64 v] ∧ N ≤ α 4
  | 7, L, α, w => Base.RowAt w (α 7) 235 #[] ∧ N ≤ α 7
  | 11, L, α, w => Base.RowAt w (α 11) 47 #[.iface 36 (.pointer (some ⟨α 4, 0, none⟩)), .int .i32 loc, .iface 211 (.pointer (some ⟨α 7, 0, none⟩)), .int .i32 loc, .int .u8 27, .bool false] ∧ N ≤ α 11 ∧ α 4 < α 11 ∧ α 7 < α 11
  | 15, L, α, w => Base.RowAt w (α 15) 50 #[.float .f64 v] ∧ N ≤ α 15 ∧ α 4 < α 15
  | 18, L, α, w => Base.RowAt w (α 18) 44 #[.iface 41 (.pointer (some ⟨α 11, 0, none⟩)), .int .i32 loc, .iface 36 (.pointer (some ⟨α 15, 0, none⟩)), .int .i32 loc, .iface rT (.pointer (some ⟨rb, 0, none⟩)), .int .i32 lr] ∧ N ≤ α 18 ∧ α 4 < α 18 ∧ α 7 < α 18 ∧ α 11 < α 18 ∧ α 15 < α 18
  | 22, L, α, w => Base.RowAt w (B + 1 + 1 + 1) 34 #[.iface 39 (.pointer (some ⟨α 18, 0, none⟩)), .int .i32 loc]
  | _, _, _, _ => True
def rNumAnc : Nat → List Nat
  | 4 => [3]
  | 7 => [6]
  | 8 => [6, 7]
  | 9 => [5, 6, 7, 8]
  | 10 => [3, 4, 5, 6, 7, 8, 9]
  | 11 => [3, 4, 5, 6, 7, 8, 9, 10]
  | 12 => [3, 4, 5, 6, 7, 8, 9, 10, 11]
  | 13 => [2, 3, 4, 5, 6, 7, 8, 9, 10, 11, 12]
  | 15 => [3, 4, 14]
  | 17 => [2, 3, 4, 5, 6, 7, 8, 9, 10, 11, 12, 13, 14, 15, 16]
  | 18 => [2, 3, 4, 5, 6, 7, 8, 9, 10, 11, 12, 13, 14, 15, 16, 17]
  | 19 => [2, 3, 4, 5, 6, 7, 8, 9, 10, 11, 12, 13, 14, 15, 16, 17, 18]
  | 20 => [1, 2, 3, 4, 5, 6, 7, 8, 9, 10, 11, 12, 13, 14, 15, 16, 17, 18, 19]
  | 21 => [0, 1, 2, 3, 4, 5, 6, 7, 8, 9, 10, 11, 12, 13, 14, 15, 16, 17, 18, 19, 20]
  | 22 => [0, 1, 2, 3, 4, 5, 6, 7, 8, 9, 10, 11, 12, 13, 14, 15, 16, 17, 18, 19, 20, 21]
  | _ => []
def rNumMods (B N : Nat) (loc lr : Int) (v : Nat) (rT : TypeId) (rb : Nat) : Nat → List Nat
  | 22 => [B + 1 + 1 + 1]
  | _ => []
def rNumStep (B N : Nat) (loc lr : Int) (v : Nat) (rT : TypeId) (rb : Nat) (i : Nat) (_ : Reg.Atoms) (w w' : World) : Prop := i < 23 ∧ Base.KeptBut (rNumMods B N loc lr v rT rb i) w w'
def rNumG (B N : Nat) (loc lr : Int) (v : Nat) (rT : TypeId) (rb : Nat) (W : World) (L : Nat → Bool) (u : World) : Prop := Base.KeptBut [B + 1 + 1 + 1] W u ∧ (L 22 = false → Base.RowAt u (B + 1 + 1 + 1) 34 #[.nilIface, .int .i32 0])
theorem rNum_he (B N : Nat) (loc lr : Int) (v : Nat) (rT : TypeId) (rb : Nat) : ∀ k α α', (∀ j, (j = k ∨ j ∈ rNumAnc k) → α j = α' j) → rNumE B N loc lr v rT rb k α = rNumE B N loc lr v rT rb k α' := by
  intro k α α' h
  match k with
  | 0 => rfl
  | 1 => rfl
  | 2 => rfl
  | 3 => rfl
  | 4 => simp only [rNumE, h 4 (Or.inl rfl)]
  | 5 => rfl
  | 6 => rfl
  | 7 => simp only [rNumE, h 7 (Or.inl rfl)]
  | 8 => simp only [rNumE, h 7 (Or.inr (by decide))]
  | 9 => simp only [rNumE, h 7 (Or.inr (by decide))]
  | 10 => simp only [rNumE, h 4 (Or.inr (by decide)), h 7 (Or.inr (by decide))]
  | 11 => simp only [rNumE, h 11 (Or.inl rfl)]
  | 12 => simp only [rNumE, h 11 (Or.inr (by decide))]
  | 13 => simp only [rNumE, h 11 (Or.inr (by decide))]
  | 14 => rfl
  | 15 => simp only [rNumE, h 15 (Or.inl rfl)]
  | 16 => rfl
  | 17 => simp only [rNumE, h 11 (Or.inr (by decide)), h 15 (Or.inr (by decide))]
  | 18 => simp only [rNumE, h 18 (Or.inl rfl)]
  | 19 => simp only [rNumE, h 18 (Or.inr (by decide))]
  | 20 => simp only [rNumE, h 18 (Or.inr (by decide))]
  | 21 => simp only [rNumE, h 18 (Or.inr (by decide))]
  | 22 => rfl
  | n + 23 => rfl
theorem rNum_hF (B N : Nat) (loc lr : Int) (v : Nat) (rT : TypeId) (rb : Nat) : ∀ k L α α' u, (∀ j, (j = k ∨ j ∈ rNumAnc k) → α j = α' j) → rNumF B N loc lr v rT rb k L α u → rNumF B N loc lr v rT rb k L α' u := by
  intro k L α α' u h hf
  match k with
  | 0 => trivial
  | 1 => trivial
  | 2 => trivial
  | 3 => trivial
  | 4 => simpa only [rNumF, h 4 (Or.inl rfl)] using hf
  | 5 => trivial
  | 6 => trivial
  | 7 => simpa only [rNumF, h 7 (Or.inl rfl)] using hf
  | 8 => trivial
  | 9 => trivial
  | 10 => trivial
  | 11 => simpa only [rNumF, h 4 (Or.inr (by decide)), h 7 (Or.inr (by decide)), h 11 (Or.inl rfl)] using hf
  | 12 => trivial
  | 13 => trivial
  | 14 => trivial
  | 15 => simpa only [rNumF, h 4 (Or.inr (by decide)), h 15 (Or.inl rfl)] using hf
  | 16 => trivial
  | 17 => trivial
  | 18 => simpa only [rNumF, h 4 (Or.inr (by decide)), h 7 (Or.inr (by decide)), h 11 (Or.inr (by decide)), h 15 (Or.inr (by decide)), h 18 (Or.inl rfl)] using hf
  | 19 => trivial
  | 20 => trivial
  | 21 => trivial
  | 22 => simpa only [rNumF, h 18 (Or.inr (by decide))] using hf
  | n + 23 => trivial
theorem rNum_mods (B N : Nat) (loc lr : Int) (v : Nat) (rT : TypeId) (rb : Nat) (hN : B + 1 + 1 + 1 < N) : ∀ i x, x ∈ rNumMods B N loc lr v rT rb i → x < N := by
  intro i x hx
  unfold rNumMods at hx
  split at hx <;> simp at hx <;> omega
theorem rNum_hFs (B N : Nat) (loc lr : Int) (v : Nat) (rT : TypeId) (rb : Nat) (hN : B + 1 + 1 + 1 < N) : ∀ k i L α u u', i ≠ k → i ∉ rNumAnc k → L k = true → L i = false → rNumStep B N loc lr v rT rb i α u u' → rNumF B N loc lr v rT rb k L α u → rNumF B N loc lr v rT rb k (Reg.ran L i) α u' := by
  intro k i L α u u' hne hni hLk hLi hst hf
  have hm := rNum_mods B N loc lr v rT rb hN i
  match k with
  | 0 => trivial
  | 1 => trivial
  | 2 => trivial
  | 3 => trivial
  | 4 => exact ⟨hf.1.kept hst.2 (fun h => by have := hm _ h; have := hf.2; omega), hf.2⟩
  | 5 => trivial
  | 6 => trivial
  | 7 => exact ⟨hf.1.kept hst.2 (fun h => by have := hm _ h; have := hf.2; omega), hf.2⟩
  | 8 => trivial
  | 9 => trivial
  | 10 => trivial
  | 11 => exact ⟨hf.1.kept hst.2 (fun h => by have := hm _ h; have := hf.2; omega), hf.2⟩
  | 12 => trivial
  | 13 => trivial
  | 14 => trivial
  | 15 => exact ⟨hf.1.kept hst.2 (fun h => by have := hm _ h; have := hf.2; omega), hf.2⟩
  | 16 => trivial
  | 17 => trivial
  | 18 => exact ⟨hf.1.kept hst.2 (fun h => by have := hm _ h; have := hf.2; omega), hf.2⟩
  | 19 => trivial
  | 20 => trivial
  | 21 => trivial
  | 22 => exact absurd ((show ∀ i, i < 23 → i ≠ 22 → i ∈ rNumAnc 22 by decide) i hst.1 hne) hni
  | n + 23 => trivial
theorem rNum_hGs (B N : Nat) (loc lr : Int) (v : Nat) (rT : TypeId) (rb : Nat) (W : World) : ∀ i L α u u', L i = false → rNumStep B N loc lr v rT rb i α u u' → rNumG B N loc lr v rT rb W L u → rNumG B N loc lr v rT rb W (Reg.ran L i) u' := by
  intro i L α u u' hLi hst hG
  obtain ⟨hk, g22⟩ := hG
  refine ⟨hk.trans (hst.2.mono (fun x hx => by unfold rNumMods at hx; split at hx <;> simp_all)), ?_⟩
  · intro h
    have hik : i ≠ 22 := by rintro rfl; simp [Reg.ran] at h
    have hLk : L 22 = false := by simpa [Reg.ran, Ne.symm hik] using h
    refine (g22 hLk).kept hst.2 ?_
    intro hx
    unfold rNumMods at hx
    split at hx <;> simp_all

def LowNum (loc lr : Int) (v : Nat) (rT : TypeId) (rb : Nat) (w : World) (e : Ending) (w' : World) : Prop :=
  ∃ bi bt b1 b2 bn, e = .returned (.agg #[.iface 39 (.pointer (some ⟨bi, 0, none⟩)), .int .i32 loc]) ∧ Below w.heap.size w w' ∧ w.heap.size ≤ bi ∧ w.heap.size ≤ bt ∧ w.heap.size ≤ b1 ∧ b1 < b2 ∧ w.heap.size ≤ bn ∧
    Base.RowAt w' bi 44 #[.iface 41 (.pointer (some ⟨bt, 0, none⟩)), .int .i32 loc, .iface 36 (.pointer (some ⟨b2, 0, none⟩)), .int .i32 loc, .iface rT (.pointer (some ⟨rb, 0, none⟩)), .int .i32 lr] ∧
    Base.RowAt w' bt 47 #[.iface 36 (.pointer (some ⟨b1, 0, none⟩)), .int .i32 loc, .iface 211 (.pointer (some ⟨bn, 0, none⟩)), .int .i32 loc, .int .u8 27, .bool false] ∧
    Base.RowAt w' b1 50 #[.float .f64 v] ∧ Base.RowAt w' b2 50 #[.float .f64 v] ∧ Base.RowAt w' bn 235 #[]
set_option maxRecDepth 100000 in
set_option maxHeartbeats 1000000 in
theorem lowNum (pb nb : Nat) (loc l0 lr : Int) (v : Nat) (rT : TypeId) (rb : Nat) (w : World) (h2 : w.cell? ⟨nb, 0, none⟩ = some (.float .f64 v)) :
    Calls Tryd.prog 35 #[.pointer (some ⟨pb, 0, none⟩), .agg #[.int .i32 loc], .agg #[.iface 36 (.pointer (some ⟨nb, 0, none⟩)), .int .i32 l0], .agg #[.iface rT (.pointer (some ⟨rb, 0, none⟩)), .int .i32 lr]] w
      (LowNum loc lr v rT rb w) := by
  have k2 := Base.block_of_cell h2
  go_enter Tryd.func35, Tryd.ntmps35
  go_wp2
  generalize hW : World.alloc _ _ = W
  have hz : w.heap.size + 7 < W.heap.size := by rw [← hW]; simp
  have hbelW : Below w.heap.size w W := by rw [← hW]; go_grown
  have c5 : W.cell? ⟨w.heap.size, 0, none⟩ = some (.int .i32 loc) := by rw [← hW]; simp [go_sem]
  have c7 : W.cell? ⟨w.heap.size + 1 + 1, 0, none⟩ = some (.iface rT (.pointer (some ⟨rb, 0, none⟩))) := by rw [← hW]; simp [go_sem]
  have c7b : W.cell? ⟨w.heap.size + 1 + 1, 1, none⟩ = some (.int .i32 lr) := by rw [← hW]; simp [go_sem]
  have cl : W.cell? ⟨w.heap.size + 1 + 1 + 1 + 1 + 1, 0, none⟩ = some (.int .i32 loc) := by rw [← hW]; simp [go_sem]
  have ce : W.cell? ⟨w.heap.size + 1 + 1 + 1 + 1 + 1 + 1 + 1, 0, none⟩ = some (.pointer (some ⟨nb, 0, none⟩)) := by rw [← hW]; simp [go_sem]
  have cn : W.cell? ⟨nb, 0, none⟩ = some (.float .f64 v) := Base.cell_below hbelW k2 h2
  have r8 : Base.RowAt W (w.heap.size + 1 + 1 + 1) 34 #[.nilIface, .int .i32 0] := by
    rw [← hW]
    exact ((((Base.RowAt.new' _ _ _ _ (by simp)).alloc _).alloc _).alloc _).alloc _
  clear hW h2
  obtain ⟨B, hB⟩ : ∃ B, B = w.heap.size := ⟨_, rfl⟩
  obtain ⟨N, hNe⟩ : ∃ N, N = W.heap.size := ⟨_, rfl⟩
  have hNW : N ≤ W.heap.size := Nat.le_of_eq hNe
  have hBN : B + 1 + 1 + 1 < N := by omega
  have hnb : nb < B := by omega
  have HNe := Lib.hid hNe
  rw [← hB] at c5 c7 c7b cl ce r8 ⊢
  have HB := Lib.hid hB
  clear hB hNe
  refine Reg.wp_region_atoms (e := rNumE B N loc lr v rT rb) (F := rNumF B N loc lr v rT rb) (anc := rNumAnc) (G := rNumG B N loc lr v rT rb W) (Step := rNumStep B N loc lr v rT rb) (by kernel_rfl) (by kernel_rfl) (by kernel_rfl) (by kernel_rfl) (rNum_he B N loc lr v rT rb) (rNum_hF B N loc lr v rT rb) (rNum_hFs B N loc lr v rT rb hBN) (rNum_hGs B N loc lr v rT rb W) ⟨(Base.KeptBut.refl _ _).drew, fun _ => r8.drew⟩ (Reg.RunsAll.all ?_) ?_
  · refine ⟨?_, ?_, ?_, ?_, ?_, ?_, ?_, ?_, ?_, ?_, ?_, ?_, ?_, ?_, ?_, ?_, ?_, ?_, ?_, ?_, ?_, ?_, ?_, trivial⟩
    · intro L α a u K hL hG hA hS h0 hK
      have q10 : a.tmps[10]? = some (.func (Fn.func 50) #[] #[.pointer (some ⟨B + 1 + 1 + 1 + 1 + 1 + 1, 0, none⟩)]) := (h0 10 (by kernel_rfl)).trans rfl
      have s10 := Reg.eval_of q10
      go_simp
      exact hK _ α _ (fun _ _ => rfl) rfl trivial ⟨by decide, .refl _ _⟩
    · intro L α a u K hL hG hA hS h0 hK
      have q5 : a.tmps[5]? = some (.pointer (some ⟨B, 0, none⟩)) := (h0 5 (by kernel_rfl)).trans rfl
      have s5 := Reg.eval_of q5
      have c0 : u.cell? ⟨B, 0, none⟩ = some (.int .i32 loc) := hG.1.cell_some c5 (by simp <;> omega)
      go_simp
      exact hK _ α _ (fun _ _ => rfl) rfl trivial ⟨by decide, .refl _ _⟩
    · intro L α a u K hL hG hA hS h0 hK
      have q5 : a.tmps[5]? = some (.pointer (some ⟨B, 0, none⟩)) := (h0 5 (by kernel_rfl)).trans rfl
      have s5 := Reg.eval_of q5
      have c0 : u.cell? ⟨B, 0, none⟩ = some (.int .i32 loc) := hG.1.cell_some c5 (by simp <;> omega)
      go_simp
      exact hK _ α _ (fun _ _ => rfl) rfl trivial ⟨by decide, .refl _ _⟩
    · intro L α a u K hL hG hA hS h0 hK
      have q9 : a.tmps[9]? = some (.func (Fn.func 55) #[] #[.pointer (some ⟨B + 1 + 1 + 1 + 1 + 1, 0, none⟩), .pointer (some ⟨B + 1 + 1 + 1 + 1 + 1 + 1 + 1, 0, none⟩)]) := (h0 9 (by kernel_rfl)).trans rfl
      have s9 := Reg.eval_of q9
      go_simp
      exact hK _ α _ (fun _ _ => rfl) rfl trivial ⟨by decide, .refl _ _⟩
    · intro L α a u K hL hG hA hS h0 hK
      have q21 : a.tmps[21]? = some (.func (Fn.func 55) #[] #[.pointer (some ⟨B + 1 + 1 + 1 + 1 + 1, 0, none⟩), .pointer (some ⟨B + 1 + 1 + 1 + 1 + 1 + 1 + 1, 0, none⟩)]) := hS 3 21 (by decide) rfl (by show 21 < 40; decide)
      have s21 := Reg.eval_of q21
      go_simp
      refine Calls.mono (cNum _ _ nb loc v _ (hG.1.cell_some cl (by simp <;> omega)) (hG.1.cell_some ce (by simp <;> omega)) (hG.1.cell_some cn (by simp <;> omega))) ?_
      rintro e u1 ⟨b, rfl, hb, hlo, hrow⟩
      exact hK _ (Reg.upd α 4 b) _ (fun j hj => if_neg hj) rfl ⟨hrow, Nat.le_trans (Nat.le_trans hNW hG.1.size) hlo⟩ ⟨by decide, Base.KeptBut.of_below hb⟩
    · intro L α a u K hL hG hA hS h0 hK
      have q5 : a.tmps[5]? = some (.pointer (some ⟨B, 0, none⟩)) := (h0 5 (by kernel_rfl)).trans rfl
      have s5 := Reg.eval_of q5
      have c0 : u.cell? ⟨B, 0, none⟩ = some (.int .i32 loc) := hG.1.cell_some c5 (by simp <;> omega)
      go_simp
      exact hK _ α _ (fun _ _ => rfl) rfl trivial ⟨by decide, .refl _ _⟩
    · intro L α a u K hL hG hA hS h0 hK
      go_simp
      exact hK _ α _ (fun _ _ => rfl) rfl trivial ⟨by decide, .refl _ _⟩
    · intro L α a u K hL hG hA hS h0 hK
      have q24 : a.tmps[24]? = some (.agg #[]) := hS 6 24 (by decide) rfl (by show 24 < 40; decide)
      have s24 := Reg.eval_of q24
      go_simp
      exact hK _ (Reg.upd α 7 u.heap.size) _ (fun j hj => if_neg hj) rfl ⟨Base.RowAt.new u _ _, Nat.le_trans hNW hG.1.size⟩ ⟨by decide, (Base.KeptBut.refl _ _).alloc _⟩
    · intro L α a u K hL hG hA hS h0 hK
      have q25 : a.tmps[25]? = some (.pointer (some ⟨α 7, 0, none⟩)) := hS 7 25 (by decide) rfl (by show 25 < 40; decide)
      have s25 := Reg.eval_of q25
      go_simp
      exact hK _ α _ (fun _ _ => rfl) rfl trivial ⟨by decide, .refl _ _⟩
    · intro L α a u K hL hG hA hS h0 hK
      have q23 : a.tmps[23]? = some (.agg #[.int .i32 loc]) := hS 5 23 (by decide) rfl (by show 23 < 40; decide)
      have s23 := Reg.eval_of q23
      have q26 : a.tmps[26]? = some (.iface 211 (.pointer (some ⟨α 7, 0, none⟩))) := hS 8 26 (by decide) rfl (by show 26 < 40; decide)
      have s26 := Reg.eval_of q26
      go_simp
      exact hK _ α _ (fun _ _ => rfl) rfl trivial ⟨by decide, .refl _ _⟩
    · intro L α a u K hL hG hA hS h0 hK
      have q22 : a.tmps[22]? = some (.agg #[.iface 36 (.pointer (some ⟨α 4, 0, none⟩)), .int .i32 loc]) := hS 4 22 (by decide) rfl (by show 22 < 40; decide)
      have s22 := Reg.eval_of q22
      have q27 : a.tmps[27]? = some (.agg #[.iface 211 (.pointer (some ⟨α 7, 0, none⟩)), .int .i32 loc]) := hS 9 27 (by decide) rfl (by show 27 < 40; decide)
      have s27 := Reg.eval_of q27
      go_simp
      exact hK _ α _ (fun _ _ => rfl) rfl trivial ⟨by decide, .refl _ _⟩
    · intro L α a u K hL hG hA hS h0 hK
      have q28 : a.tmps[28]? = some (.agg #[.iface 36 (.pointer (some ⟨α 4, 0, none⟩)), .int .i32 loc, .iface 211 (.pointer (some ⟨α 7, 0, none⟩)), .int .i32 loc, .int .u8 27, .bool false]) := hS 10 28 (by decide) rfl (by show 28 < 40; decide)
      have s28 := Reg.eval_of q28
      have f4 := (hA 4 (by decide)).2
      have f7 := (hA 7 (by decide)).2
      go_simp
      exact hK _ (Reg.upd α 11 u.heap.size) _ (fun j hj => if_neg hj) rfl ⟨Base.RowAt.new u _ _, Nat.le_trans hNW hG.1.size, f4.1.lt, f7.1.lt⟩ ⟨by decide, (Base.KeptBut.refl _ _).alloc _⟩
    · intro L α a u K hL hG hA hS h0 hK
      have q29 : a.tmps[29]? = some (.pointer (some ⟨α 11, 0, none⟩)) := hS 11 29 (by decide) rfl (by show 29 < 40; decide)
      have s29 := Reg.eval_of q29
      go_simp
      exact hK _ α _ (fun _ _ => rfl) rfl trivial ⟨by decide, .refl _ _⟩
    · intro L α a u K hL hG hA hS h0 hK
      have q20 : a.tmps[20]? = some (.agg #[.int .i32 loc]) := hS 2 20 (by decide) rfl (by show 20 < 40; decide)
      have s20 := Reg.eval_of q20
      have q30 : a.tmps[30]? = some (.iface 41 (.pointer (some ⟨α 11, 0, none⟩))) := hS 12 30 (by decide) rfl (by show 30 < 40; decide)
      have s30 := Reg.eval_of q30
      go_simp
      exact hK _ α _ (fun _ _ => rfl) rfl trivial ⟨by decide, .refl _ _⟩
    · intro L α a u K hL hG hA hS h0 hK
      have q9 : a.tmps[9]? = some (.func (Fn.func 55) #[] #[.pointer (some ⟨B + 1 + 1 + 1 + 1 + 1, 0, none⟩), .pointer (some ⟨B + 1 + 1 + 1 + 1 + 1 + 1 + 1, 0, none⟩)]) := (h0 9 (by kernel_rfl)).trans rfl
      have s9 := Reg.eval_of q9
      go_simp
      exact hK _ α _ (fun _ _ => rfl) rfl trivial ⟨by decide, .refl _ _⟩
    · intro L α a u K hL hG hA hS h0 hK
      have q32 : a.tmps[32]? = some (.func (Fn.func 55) #[] #[.pointer (some ⟨B + 1 + 1 + 1 + 1 + 1, 0, none⟩), .pointer (some ⟨B + 1 + 1 + 1 + 1 + 1 + 1 + 1, 0, none⟩)]) := hS 14 32 (by decide) rfl (by show 32 < 40; decide)
      have s32 := Reg.eval_of q32
      go_simp
      refine Calls.mono (cNum _ _ nb loc v _ (hG.1.cell_some cl (by simp <;> omega)) (hG.1.cell_some ce (by simp <;> omega)) (hG.1.cell_some cn (by simp <;> omega))) ?_
      rintro e u1 ⟨b, rfl, hb, hlo, hrow⟩
      have f4 := (hA 4 (by decide)).2
      exact hK _ (Reg.upd α 15 b) _ (fun j hj => if_neg hj) rfl ⟨hrow, Nat.le_trans (Nat.le_trans hNW hG.1.size) hlo, Nat.lt_of_lt_of_le f4.1.lt hlo⟩ ⟨by decide, Base.KeptBut.of_below hb⟩
    · intro L α a u K hL hG hA hS h0 hK
      have q7 : a.tmps[7]? = some (.pointer (some ⟨B + 1 + 1, 0, none⟩)) := (h0 7 (by kernel_rfl)).trans rfl
      have s7 := Reg.eval_of q7
      have c0 : u.cell? ⟨B + 1 + 1, 0, none⟩ = some (.iface rT (.pointer (some ⟨rb, 0, none⟩))) := hG.1.cell_some c7 (by simp <;> omega)
      have c1 : u.cell? ⟨B + 1 + 1, 1, none⟩ = some (.int .i32 lr) := hG.1.cell_some c7b (by simp <;> omega)
      go_simp
      exact hK _ α _ (fun _ _ => rfl) rfl trivial ⟨by decide, .refl _ _⟩
    · intro L α a u K hL hG hA hS h0 hK
      have q31 : a.tmps[31]? = some (.agg #[.iface 41 (.pointer (some ⟨α 11, 0, none⟩)), .int .i32 loc]) := hS 13 31 (by decide) rfl (by show 31 < 40; decide)
      have s31 := Reg.eval_of q31
      have q33 : a.tmps[33]? = some (.agg #[.iface 36 (.pointer (some ⟨α 15, 0, none⟩)), .int .i32 loc]) := hS 15 33 (by decide) rfl (by show 33 < 40; decide)
      have s33 := Reg.eval_of q33
      have q34 : a.tmps[34]? = some (.agg #[.iface rT (.pointer (some ⟨rb, 0, none⟩)), .int .i32 lr]) := hS 16 34 (by decide) rfl (by show 34 < 40; decide)
      have s34 := Reg.eval_of q34
      go_simp
      exact hK _ α _ (fun _ _ => rfl) rfl trivial ⟨by decide, .refl _ _⟩
    · intro L α a u K hL hG hA hS h0 hK
      have q35 : a.tmps[35]? = some (.agg #[.iface 41 (.pointer (some ⟨α 11, 0, none⟩)), .int .i32 loc, .iface 36 (.pointer (some ⟨α 15, 0, none⟩)), .int .i32 loc, .iface rT (.pointer (some ⟨rb, 0, none⟩)), .int .i32 lr]) := hS 17 35 (by decide) rfl (by show 35 < 40; decide)
      have s35 := Reg.eval_of q35
      have f4 := (hA 4 (by decide)).2
      have f7 := (hA 7 (by decide)).2
      have f11 := (hA 11 (by decide)).2
      have f15 := (hA 15 (by decide)).2
      go_simp
      exact hK _ (Reg.upd α 18 u.heap.size) _ (fun j hj => if_neg hj) rfl ⟨Base.RowAt.new u _ _, Nat.le_trans hNW hG.1.size, f4.1.lt, f7.1.lt, f11.1.lt, f15.1.lt⟩ ⟨by decide, (Base.KeptBut.refl _ _).alloc _⟩
    · intro L α a u K hL hG hA hS h0 hK
      have q36 : a.tmps[36]? = some (.pointer (some ⟨α 18, 0, none⟩)) := hS 18 36 (by decide) rfl (by show 36 < 40; decide)
      have s36 := Reg.eval_of q36
      go_simp
      exact hK _ α _ (fun _ _ => rfl) rfl trivial ⟨by decide, .refl _ _⟩
    · intro L α a u K hL hG hA hS h0 hK
      have q19 : a.tmps[19]? = some (.agg #[.int .i32 loc]) := hS 1 19 (by decide) rfl (by show 19 < 40; decide)
      have s19 := Reg.eval_of q19
      have q37 : a.tmps[37]? = some (.iface 39 (.pointer (some ⟨α 18, 0, none⟩))) := hS 19 37 (by decide) rfl (by show 37 < 40; decide)
      have s37 := Reg.eval_of q37
      go_simp
      exact hK _ α _ (fun _ _ => rfl) rfl trivial ⟨by decide, .refl _ _⟩
    · intro L α a u K hL hG hA hS h0 hK
      have q18 : a.tmps[18]? = some (.func (Fn.func 50) #[] #[.pointer (some ⟨B + 1 + 1 + 1 + 1 + 1 + 1, 0, none⟩)]) := hS 0 18 (by decide) rfl (by show 18 < 40; decide)
      have s18 := Reg.eval_of q18
      have q38 : a.tmps[38]? = some (.agg #[.iface 39 (.pointer (some ⟨α 18, 0, none⟩)), .int .i32 loc]) := hS 20 38 (by decide) rfl (by show 38 < 40; decide)
      have s38 := Reg.eval_of q38
      go_simp
      refine Calls.mono (cWrap _ _ _ _ _) ?_
      rintro e u1 ⟨rfl, hb⟩
      exact hK _ α _ (fun _ _ => rfl) rfl trivial ⟨by decide, Base.KeptBut.of_below hb⟩
    · intro L α a u K hL hG hA hS h0 hK
      have q8 : a.tmps[8]? = some (.pointer (some ⟨B + 1 + 1 + 1, 0, none⟩)) := (h0 8 (by kernel_rfl)).trans rfl
      have s8 := Reg.eval_of q8
      have q39 : a.tmps[39]? = some (.agg #[.iface 39 (.pointer (some ⟨α 18, 0, none⟩)), .int .i32 loc]) := hS 21 39 (by decide) rfl (by show 39 < 40; decide)
      have s39 := Reg.eval_of q39
      have hr := hG.2 hL
      have x0 : u.cell? ⟨B + 1 + 1 + 1, 0, none⟩ = some (.nilIface) := hr.cell rfl
      have y0 : u.frozen? ⟨B + 1 + 1 + 1, 0, none⟩ = false := hr.free 0
      have x1 : u.cell? ⟨B + 1 + 1 + 1, 1, none⟩ = some (.int .i32 0) := hr.cell rfl
      have y1 : u.frozen? ⟨B + 1 + 1 + 1, 1, none⟩ = false := hr.free 1
      have HR := Lib.hid hr
      clear hr
      go_simp
      exact hK _ α _ (fun _ _ => rfl) rfl ((HR.out.set 0 _).set 1 _) ⟨by decide, ((Base.KeptBut.refl _ _).setCell (Or.inl (by simp [rNumMods])) _).setCell (Or.inl (by simp [rNumMods])) _⟩
  · intro α u hG hF
    have f4 := hF 4 (by decide)
    have f7 := hF 7 (by decide)
    have f11 := hF 11 (by decide)
    have f15 := hF 15 (by decide)
    have f18 := hF 18 (by decide)
    have f22 := hF 22 (by decide)
    generalize hfr : Reg.frameAt _ _ _ _ _ = fr
    have q8 : fr.tmps[8]? = some (.pointer (some ⟨B + 1 + 1 + 1, 0, none⟩)) := by rw [← hfr]; kernel_rfl
    have hdf : fr.defers = [] := by rw [← hfr]; kernel_rfl
    have z0 := f22.cell (i := 0) rfl
    have z1 := f22.cell (i := 1) rfl
    clear hfr
    go_wp2
    have hB := HB.out
    have hNe := HNe.out
    have hbu : Below w.heap.size w u := hbelW.trans (hG.1.below hbelW.size (fun k hk => by simp at hk; omega))
    refine bodyPost_ret (v := .agg #[.iface 39 (.pointer (some ⟨α 18, 0, none⟩)), .int .i32 loc]) ?_ hdf ?_
    · simp [results, Tryd.results35, go_sem, q8, z0, z1]
    · have h4 := f4.2
      have h7 := f7.2
      have h11 := f11.2
      have h15 := f15.2
      have h18 := f18.2
      refine ⟨α 18, α 11, α 4, α 15, α 7, rfl, hbu, by omega, by omega, by omega, by omega, by omega, f18.1, f11.1, f4.1, f15.1, f7.1⟩
end Go.Proofs.YtlgefnjkoklboaaDoor.l131
