/- An assignment node is made. No condition. -/
import Derived.Test.YtlgefnjkoklboaaDoorIdent
namespace Go.Proofs.YtlgefnjkoklboaaDoor.Use
open Go.ChangeShapes Go.WideShapes Go.ChangeAt Go.RowKit Go.Sort
set_option linter.unusedVariables false
/-- A pointer to the head of block b, in an interface of type T. -/
abbrev nodeV (T b : Nat) : Value := .iface T (.pointer (some ⟨b, 0, none⟩))
def Assigned (T1 x1 T2 x2 : Nat) (l1 l2 : Int) (w : World) (e : Ending) (w' : World) : Prop :=
  ∃ b, e = .returned (.agg #[.iface 41 (.pointer (some ⟨b, 0, none⟩)), .int .i32 l1]) ∧ w.heap.size ≤ b ∧ Below w.heap.size w w' ∧
    Base.RowAt w' b 47 #[.iface T1 (.pointer (some ⟨x1, 0, none⟩)), .int .i32 l1, .iface T2 (.pointer (some ⟨x2, 0, none⟩)), .int .i32 l2, .int .u8 37, .bool false]
set_option maxRecDepth 100000 in
theorem assign (T1 x1 T2 x2 : Nat) (l1 l2 : Int) (w : World) :
    Calls Tryd.prog 46 #[.agg #[.iface T1 (.pointer (some ⟨x1, 0, none⟩)), .int .i32 l1], .agg #[.iface T2 (.pointer (some ⟨x2, 0, none⟩)), .int .i32 l2]] w (Assigned T1 x1 T2 x2 l1 l2 w) := by
  go_enter Tryd.func46, Tryd.ntmps46
  go_wp2
  go_returns
  refine ⟨w.heap.size + 1 + 1 + 1, rfl, by omega, by go_grown, ?_⟩
  exact Base.RowAt.new' _ _ _ _ (by simp)

def rLgE (B N bl bo be eb T1 x1 T2 x2 TR xr : Nat) (loc op l1 l2 lr : Int) : Nat → Rega.Atoms → Value
  | 0, α => .agg #[.int .i32 loc]
  | 1, α => .int .u8 op
  | 2, α => .agg #[.iface T1 (.pointer (some ⟨x1, 0, none⟩)), .int .i32 l1]
  | 3, α => .agg #[.iface T2 (.pointer (some ⟨x2, 0, none⟩)), .int .i32 l2]
  | 4, α => .pointer (some ⟨eb, 0, none⟩)
  | 5, α => .pointer (some ⟨eb, 0, none⟩)
  | 6, α => .pointer (some ⟨eb, 2, none⟩)
  | 7, α => .agg #[.iface TR (.pointer (some ⟨xr, 0, none⟩)), .int .i32 lr]
  | 8, α => .agg #[.iface 41 (.pointer (some ⟨α 8, 0, none⟩)), .int .i32 l2]
  | 9, α => .agg #[.iface T1 (.pointer (some ⟨x1, 0, none⟩)), .int .i32 l1, .iface 41 (.pointer (some ⟨α 8, 0, none⟩)), .int .i32 l2, .int .u8 op, .bool false]
  | 10, α => .pointer (some ⟨α 10, 0, none⟩)
  | 11, α => .iface 41 (.pointer (some ⟨α 10, 0, none⟩))
  | 12, α => .agg #[.iface 41 (.pointer (some ⟨α 10, 0, none⟩)), .int .i32 loc]
  | 13, α => undef
  | _, _ => undef
def rLgF (B N bl bo be eb T1 x1 T2 x2 TR xr : Nat) (loc op l1 l2 lr : Int) : Nat → (Nat → Bool) → Rega.Atoms → World → Prop
  | 8, L, α, u => N ≤ α 8 ∧ Base.RowAt u (α 8) 47 #[.iface T2 (.pointer (some ⟨x2, 0, none⟩)), .int .i32 l2, .iface TR (.pointer (some ⟨xr, 0, none⟩)), .int .i32 lr, .int .u8 37, .bool false]
  | 10, L, α, u => N ≤ α 10 ∧ Base.RowAt u (α 10) 47 #[.iface T1 (.pointer (some ⟨x1, 0, none⟩)), .int .i32 l1, .iface 41 (.pointer (some ⟨α 8, 0, none⟩)), .int .i32 l2, .int .u8 op, .bool false] ∧ α 8 < α 10
  | 13, L, α, u => Base.RowAt u (B + 1 + 1) 34 #[.iface 41 (.pointer (some ⟨α 10, 0, none⟩)), .int .i32 loc]
  | _, _, _, _ => True
def rLgAnc : Nat → List Nat
  | 5 => [4]
  | 6 => [4, 5]
  | 7 => [4, 5, 6]
  | 8 => [3, 4, 5, 6, 7]
  | 9 => [1, 2, 3, 4, 5, 6, 7, 8]
  | 10 => [1, 2, 3, 4, 5, 6, 7, 8, 9]
  | 11 => [1, 2, 3, 4, 5, 6, 7, 8, 9, 10]
  | 12 => [0, 1, 2, 3, 4, 5, 6, 7, 8, 9, 10, 11]
  | 13 => [0, 1, 2, 3, 4, 5, 6, 7, 8, 9, 10, 11, 12]
  | _ => []
def rLgMods (B N bl bo be eb T1 x1 T2 x2 TR xr : Nat) (loc op l1 l2 lr : Int) : Nat → List Nat
  | 13 => [B + 1 + 1]
  | _ => []
def rLgStep (B N bl bo be eb T1 x1 T2 x2 TR xr : Nat) (loc op l1 l2 lr : Int) (ii : Nat) (_ : Rega.Atoms) (w w' : World) : Prop := ii < 14 ∧ Base.KeptBut (rLgMods B N bl bo be eb T1 x1 T2 x2 TR xr loc op l1 l2 lr ii) w w'
def rLgG (B N bl bo be eb T1 x1 T2 x2 TR xr : Nat) (loc op l1 l2 lr : Int) (W : World) (L : Nat → Bool) (u : World) : Prop := Base.KeptBut [B + 1 + 1] W u ∧ (L 13 = false → Base.RowAt u (B + 1 + 1) 34 #[.nilIface, .int .i32 0])
theorem rLg_he (B N bl bo be eb T1 x1 T2 x2 TR xr : Nat) (loc op l1 l2 lr : Int) : ∀ kk α α', (∀ j, (j % 1000 = kk ∨ j % 1000 ∈ rLgAnc kk) → α j = α' j) → rLgE B N bl bo be eb T1 x1 T2 x2 TR xr loc op l1 l2 lr kk α = rLgE B N bl bo be eb T1 x1 T2 x2 TR xr loc op l1 l2 lr kk α' := by
  intro kk α α' h
  match kk with
  | 0 => rfl
  | 1 => rfl
  | 2 => rfl
  | 3 => rfl
  | 4 => rfl
  | 5 => rfl
  | 6 => rfl
  | 7 => rfl
  | 8 => simp only [rLgE, h 8 (Or.inl rfl)]
  | 9 => simp only [rLgE, h 8 (Or.inr (by decide))]
  | 10 => simp only [rLgE, h 10 (Or.inl rfl)]
  | 11 => simp only [rLgE, h 10 (Or.inr (by decide))]
  | 12 => simp only [rLgE, h 10 (Or.inr (by decide))]
  | 13 => rfl
  | n + 14 => rfl
theorem rLg_hF (B N bl bo be eb T1 x1 T2 x2 TR xr : Nat) (loc op l1 l2 lr : Int) : ∀ kk L α α' u, (∀ j, (j % 1000 = kk ∨ j % 1000 ∈ rLgAnc kk) → α j = α' j) → rLgF B N bl bo be eb T1 x1 T2 x2 TR xr loc op l1 l2 lr kk L α u → rLgF B N bl bo be eb T1 x1 T2 x2 TR xr loc op l1 l2 lr kk L α' u := by
  intro kk L α α' u h hf
  match kk with
  | 0 => trivial
  | 1 => trivial
  | 2 => trivial
  | 3 => trivial
  | 4 => trivial
  | 5 => trivial
  | 6 => trivial
  | 7 => trivial
  | 8 => simpa only [rLgF, h 8 (Or.inl rfl)] using hf
  | 9 => trivial
  | 10 => simpa only [rLgF, h 8 (Or.inr (by decide)), h 10 (Or.inl rfl)] using hf
  | 11 => trivial
  | 12 => trivial
  | 13 => simpa only [rLgF, h 10 (Or.inr (by decide))] using hf
  | n + 14 => trivial
theorem rLg_mods (B N bl bo be eb T1 x1 T2 x2 TR xr : Nat) (loc op l1 l2 lr : Int) (hBN : B + 3 ≤ N) : ∀ ii x, x ∈ rLgMods B N bl bo be eb T1 x1 T2 x2 TR xr loc op l1 l2 lr ii → x < N := by
  intro ii x hx
  unfold rLgMods at hx
  split at hx <;> simp at hx <;> omega
theorem rLg_hFs (B N bl bo be eb T1 x1 T2 x2 TR xr : Nat) (loc op l1 l2 lr : Int) (hBN : B + 3 ≤ N) : ∀ kk ii L α u u', ii ≠ kk → ii ∉ rLgAnc kk → L kk = true → L ii = false → (∀ j, L j = true → ∀ i, i ∈ rLgAnc j → L i = true) → (∀ j, j ∈ rLgAnc ii → L j = true) → rLgStep B N bl bo be eb T1 x1 T2 x2 TR xr loc op l1 l2 lr ii α u u' → rLgF B N bl bo be eb T1 x1 T2 x2 TR xr loc op l1 l2 lr kk L α u → rLgF B N bl bo be eb T1 x1 T2 x2 TR xr loc op l1 l2 lr kk (Rega.ran L ii) α u' := by
  intro kk ii L α u u' hne hni hLk hLi hcl hai hst hf
  have hm := rLg_mods B N bl bo be eb T1 x1 T2 x2 TR xr loc op l1 l2 lr hBN ii
  match kk with
  | 0 => trivial
  | 1 => trivial
  | 2 => trivial
  | 3 => trivial
  | 4 => trivial
  | 5 => trivial
  | 6 => trivial
  | 7 => trivial
  | 8 =>
    refine ⟨?_, ?_⟩
    · exact hf.1
    · exact hf.2.kept hst.2 (fun h => by have h1 := hm _ h; have h2 := hf.1; omega)
  | 9 => trivial
  | 10 =>
    refine ⟨?_, ?_, ?_⟩
    · exact hf.1
    · exact hf.2.1.kept hst.2 (fun h => by have h1 := hm _ h; have h2 := hf.1; omega)
    · exact hf.2.2
  | 11 => trivial
  | 12 => trivial
  | 13 =>
    refine hf.kept hst.2 ?_
    intro hx
    unfold rLgMods at hx
    split at hx <;> first | exact absurd rfl hne | exact hni (by decide) | (simp at hx; done) | (simp at hx; omega)
  | n + 14 => trivial
theorem rLg_hGs (B N bl bo be eb T1 x1 T2 x2 TR xr : Nat) (loc op l1 l2 lr : Int) (hBN : B + 3 ≤ N) (W : World) : ∀ ii L α u u', L ii = false → (∀ j, L j = true → ∀ i, i ∈ rLgAnc j → L i = true) → (∀ j, j ∈ rLgAnc ii → L j = true) → rLgStep B N bl bo be eb T1 x1 T2 x2 TR xr loc op l1 l2 lr ii α u u' → rLgG B N bl bo be eb T1 x1 T2 x2 TR xr loc op l1 l2 lr W L u → rLgG B N bl bo be eb T1 x1 T2 x2 TR xr loc op l1 l2 lr W (Rega.ran L ii) u' := by
  intro ii L α u u' hLi hcl hai hst hG
  obtain ⟨hk, g0⟩ := hG
  refine ⟨hk.trans (hst.2.mono (fun x hx => by unfold rLgMods at hx; split at hx <;> simp at hx <;> simp [hx])), ?_⟩
  · intro hg
    have hik : ii ≠ 13 := by rintro rfl; simp [Rega.ran] at hg
    have hLn : L 13 = false := by simpa [Rega.ran, Ne.symm hik] using hg
    refine (g0 hLn).kept hst.2 ?_
    intro hx
    unfold rLgMods at hx
    split at hx <;> first | exact absurd rfl hik | exact absurd (hai 13 (by decide)) (by rw [hLn]; decide) | (simp at hx; done) | (simp at hx; omega)

/-- 'a op (b = r)' is made. -/
def Logical (T1 x1 T2 x2 TR xr : Nat) (loc op l1 l2 lr : Int) (w : World) (e : Ending) (w' : World) : Prop :=
  ∃ b a, e = .returned (.agg #[.iface 41 (.pointer (some ⟨b, 0, none⟩)), .int .i32 loc]) ∧ w.heap.size ≤ a ∧ a < b ∧ Below w.heap.size w w' ∧
    Base.RowAt w' b 47 #[.iface T1 (.pointer (some ⟨x1, 0, none⟩)), .int .i32 l1, .iface 41 (.pointer (some ⟨a, 0, none⟩)), .int .i32 l2, .int .u8 op, .bool false] ∧
    Base.RowAt w' a 47 #[.iface T2 (.pointer (some ⟨x2, 0, none⟩)), .int .i32 l2, .iface TR (.pointer (some ⟨xr, 0, none⟩)), .int .i32 lr, .int .u8 37, .bool false]
set_option maxRecDepth 100000 in
set_option maxHeartbeats 1000000 in
theorem logicalFn (bl bo be eb T1 x1 T2 x2 TR xr : Nat) (loc op l1 l2 lr : Int) (w : World)
   (k0 : w.cell? ⟨bl, 0, none⟩ = some (.int .i32 loc)) (k1 : w.cell? ⟨bo, 0, none⟩ = some (.int .u8 op)) (k2 : w.cell? ⟨be, 0, none⟩ = some (.pointer (some ⟨eb, 0, none⟩)))
   (k3 : w.cell? ⟨eb, 2, none⟩ = some (.iface TR (.pointer (some ⟨xr, 0, none⟩)))) (k4 : w.cell? ⟨eb, 3, none⟩ = some (.int .i32 lr)) :
    Calls Tryd.prog 45 #[.agg #[.iface T1 (.pointer (some ⟨x1, 0, none⟩)), .int .i32 l1], .agg #[.iface T2 (.pointer (some ⟨x2, 0, none⟩)), .int .i32 l2], .pointer (some ⟨bl, 0, none⟩), .pointer (some ⟨bo, 0, none⟩), .pointer (some ⟨be, 0, none⟩)] w (Logical T1 x1 T2 x2 TR xr loc op l1 l2 lr w) := by
  have l0 := Base.block_of_cell k0
  have l1' := Base.block_of_cell k1
  have l2' := Base.block_of_cell k2
  have l3 := Base.block_of_cell k3
  go_enter Tryd.func45, Tryd.ntmps45
  go_wp2
  generalize hW : World.alloc _ _ = W
  have hz : w.heap.size + 3 ≤ W.heap.size := by rw [← hW]; simp <;> omega
  have hbW : Below w.heap.size w W := by rw [← hW]; go_grown
  have r0 : Base.RowAt W (w.heap.size) 34 #[.iface T1 (.pointer (some ⟨x1, 0, none⟩)), .int .i32 l1] := by
    rw [← hW]
    repeat (first | exact Base.RowAt.new' _ _ _ _ (by simp) | refine Base.RowAt.drew ?_ | refine Base.RowAt.alloc ?_ _)
  have r1 : Base.RowAt W (w.heap.size + 1) 34 #[.iface T2 (.pointer (some ⟨x2, 0, none⟩)), .int .i32 l2] := by
    rw [← hW]
    repeat (first | exact Base.RowAt.new' _ _ _ _ (by simp) | refine Base.RowAt.drew ?_ | refine Base.RowAt.alloc ?_ _)
  have r2 : Base.RowAt W (w.heap.size + 1 + 1) 34 #[.nilIface, .int .i32 0] := by
    rw [← hW]
    repeat (first | exact Base.RowAt.new' _ _ _ _ (by simp) | refine Base.RowAt.drew ?_ | refine Base.RowAt.alloc ?_ _)
  clear hW
  obtain ⟨B, hB⟩ : ∃ B, B = w.heap.size := ⟨_, rfl⟩
  obtain ⟨N, hNe⟩ : ∃ N, N = W.heap.size := ⟨_, rfl⟩
  have hNW : N ≤ W.heap.size := Nat.le_of_eq hNe
  have hBN : B + 3 ≤ N := by omega
  have HNe := Lib.hid hNe
  rw [← hB] at r0 r1 r2 ⊢
  have HB := Lib.hid hB
  clear hB hNe
  have k0 := Base.cell_below hbW l0 k0
  have k1 := Base.cell_below hbW l1' k1
  have k2 := Base.cell_below hbW l2' k2
  have k3 := Base.cell_below hbW l3 k3
  have k4 := Base.cell_below hbW l3 k4
  have hBl : bl < B := by have := HB.out; omega
  have hBo : bo < B := by have := HB.out; omega
  have hBe : be < B := by have := HB.out; omega
  have hEb : eb < B := by have := HB.out; omega
  refine Rega.wp_region_atoms (e := rLgE B N bl bo be eb T1 x1 T2 x2 TR xr loc op l1 l2 lr) (F := rLgF B N bl bo be eb T1 x1 T2 x2 TR xr loc op l1 l2 lr) (anc := rLgAnc) (G := rLgG B N bl bo be eb T1 x1 T2 x2 TR xr loc op l1 l2 lr W) (Step := rLgStep B N bl bo be eb T1 x1 T2 x2 TR xr loc op l1 l2 lr) (by kernel_rfl) (by kernel_rfl) (by kernel_rfl) (by kernel_rfl) (rLg_he B N bl bo be eb T1 x1 T2 x2 TR xr loc op l1 l2 lr) (rLg_hF B N bl bo be eb T1 x1 T2 x2 TR xr loc op l1 l2 lr) (rLg_hFs B N bl bo be eb T1 x1 T2 x2 TR xr loc op l1 l2 lr hBN) (rLg_hGs B N bl bo be eb T1 x1 T2 x2 TR xr loc op l1 l2 lr hBN W) ⟨(Base.KeptBut.refl _ _).drew, fun _ => r2.drew⟩ (Rega.RunsAll.all ?_) ?_
  · refine ⟨?_, ?_, ?_, ?_, ?_, ?_, ?_, ?_, ?_, ?_, ?_, ?_, ?_, ?_, trivial⟩
    · intro L α a u K hL hcl hG hA hS h0 hK
      have q2 : a.tmps[2]? = some (.pointer (some ⟨bl, 0, none⟩)) := (h0 2 (by kernel_rfl)).trans rfl
      have s2 := Rega.eval_of q2
      have c0 : u.cell? ⟨bl, 0, none⟩ = some (.int .i32 loc) := hG.1.cell_some k0 (by simp <;> omega)
      go_simp
      exact hK _ α _ (fun _ _ => rfl) rfl trivial ⟨by decide, .refl _ _⟩
    · intro L α a u K hL hcl hG hA hS h0 hK
      have q3 : a.tmps[3]? = some (.pointer (some ⟨bo, 0, none⟩)) := (h0 3 (by kernel_rfl)).trans rfl
      have s3 := Rega.eval_of q3
      have c0 : u.cell? ⟨bo, 0, none⟩ = some (.int .u8 op) := hG.1.cell_some k1 (by simp <;> omega)
      go_simp
      exact hK _ α _ (fun _ _ => rfl) rfl trivial ⟨by decide, .refl _ _⟩
    · intro L α a u K hL hcl hG hA hS h0 hK
      have q5 : a.tmps[5]? = some (.pointer (some ⟨B, 0, none⟩)) := (h0 5 (by kernel_rfl)).trans rfl
      have s5 := Rega.eval_of q5
      have c0 : u.cell? ⟨B, 0, none⟩ = some (.iface T1 (.pointer (some ⟨x1, 0, none⟩))) := hG.1.cell_some (r0.cell rfl) (by simp <;> omega)
      have c1 : u.cell? ⟨B, 1, none⟩ = some (.int .i32 l1) := hG.1.cell_some (r0.cell rfl) (by simp <;> omega)
      go_simp
      exact hK _ α _ (fun _ _ => rfl) rfl trivial ⟨by decide, .refl _ _⟩
    · intro L α a u K hL hcl hG hA hS h0 hK
      have q6 : a.tmps[6]? = some (.pointer (some ⟨B + 1, 0, none⟩)) := (h0 6 (by kernel_rfl)).trans rfl
      have s6 := Rega.eval_of q6
      have c0 : u.cell? ⟨B + 1, 0, none⟩ = some (.iface T2 (.pointer (some ⟨x2, 0, none⟩))) := hG.1.cell_some (r1.cell rfl) (by simp <;> omega)
      have c1 : u.cell? ⟨B + 1, 1, none⟩ = some (.int .i32 l2) := hG.1.cell_some (r1.cell rfl) (by simp <;> omega)
      go_simp
      exact hK _ α _ (fun _ _ => rfl) rfl trivial ⟨by decide, .refl _ _⟩
    · intro L α a u K hL hcl hG hA hS h0 hK
      have q4 : a.tmps[4]? = some (.pointer (some ⟨be, 0, none⟩)) := (h0 4 (by kernel_rfl)).trans rfl
      have s4 := Rega.eval_of q4
      have c0 : u.cell? ⟨be, 0, none⟩ = some (.pointer (some ⟨eb, 0, none⟩)) := hG.1.cell_some k2 (by simp <;> omega)
      go_simp
      exact hK _ α _ (fun _ _ => rfl) rfl trivial ⟨by decide, .refl _ _⟩
    · intro L α a u K hL hcl hG hA hS h0 hK
      have q12 : a.tmps[12]? = some (.pointer (some ⟨eb, 0, none⟩)) := hS 4 12 (by decide) rfl (by show 12 < 21; decide)
      have s12 := Rega.eval_of q12
      go_simp
      exact hK _ α _ (fun _ _ => rfl) rfl trivial ⟨by decide, .refl _ _⟩
    · intro L α a u K hL hcl hG hA hS h0 hK
      have q13 : a.tmps[13]? = some (.pointer (some ⟨eb, 0, none⟩)) := hS 5 13 (by decide) rfl (by show 13 < 21; decide)
      have s13 := Rega.eval_of q13
      go_simp
      exact hK _ α _ (fun _ _ => rfl) rfl trivial ⟨by decide, .refl _ _⟩
    · intro L α a u K hL hcl hG hA hS h0 hK
      have q14 : a.tmps[14]? = some (.pointer (some ⟨eb, 2, none⟩)) := hS 6 14 (by decide) rfl (by show 14 < 21; decide)
      have s14 := Rega.eval_of q14
      have c0 : u.cell? ⟨eb, 2, none⟩ = some (.iface TR (.pointer (some ⟨xr, 0, none⟩))) := hG.1.cell_some k3 (by simp <;> omega)
      have c1 : u.cell? ⟨eb, 3, none⟩ = some (.int .i32 lr) := hG.1.cell_some k4 (by simp <;> omega)
      go_simp
      exact hK _ α _ (fun _ _ => rfl) rfl trivial ⟨by decide, .refl _ _⟩
    · intro L α a u K hL hcl hG hA hS h0 hK
      have q11 : a.tmps[11]? = some (.agg #[.iface T2 (.pointer (some ⟨x2, 0, none⟩)), .int .i32 l2]) := hS 3 11 (by decide) rfl (by show 11 < 21; decide)
      have s11 := Rega.eval_of q11
      have q15 : a.tmps[15]? = some (.agg #[.iface TR (.pointer (some ⟨xr, 0, none⟩)), .int .i32 lr]) := hS 7 15 (by decide) rfl (by show 15 < 21; decide)
      have s15 := Rega.eval_of q15
      go_simp
      refine Calls.mono (assign T2 x2 TR xr l2 lr _) ?_
      rintro e u1 ⟨b, rfl, hlo, hb, hr⟩
      exact hK _ (fun j => if j = 8 then b else α j) _ (fun j hj => if_neg (by omega)) rfl ⟨Nat.le_trans (Nat.le_trans hNW hG.1.size) hlo, hr⟩ ⟨by decide, Base.KeptBut.of_below hb⟩
    · intro L α a u K hL hcl hG hA hS h0 hK
      have q9 : a.tmps[9]? = some (.int .u8 op) := hS 1 9 (by decide) rfl (by show 9 < 21; decide)
      have s9 := Rega.eval_of q9
      have q10 : a.tmps[10]? = some (.agg #[.iface T1 (.pointer (some ⟨x1, 0, none⟩)), .int .i32 l1]) := hS 2 10 (by decide) rfl (by show 10 < 21; decide)
      have s10 := Rega.eval_of q10
      have q16 : a.tmps[16]? = some (.agg #[.iface 41 (.pointer (some ⟨α 8, 0, none⟩)), .int .i32 l2]) := hS 8 16 (by decide) rfl (by show 16 < 21; decide)
      have s16 := Rega.eval_of q16
      go_simp
      exact hK _ α _ (fun _ _ => rfl) rfl trivial ⟨by decide, .refl _ _⟩
    · intro L α a u K hL hcl hG hA hS h0 hK
      have q17 : a.tmps[17]? = some (.agg #[.iface T1 (.pointer (some ⟨x1, 0, none⟩)), .int .i32 l1, .iface 41 (.pointer (some ⟨α 8, 0, none⟩)), .int .i32 l2, .int .u8 op, .bool false]) := hS 9 17 (by decide) rfl (by show 17 < 21; decide)
      have s17 := Rega.eval_of q17
      have l8 : α 8 < u.heap.size := (hA 8 (by decide)).2.2.lt
      go_simp
      exact hK _ (fun j => if j = 10 then u.heap.size else α j) _ (fun j hj => if_neg (by omega)) rfl ⟨Nat.le_trans hNW hG.1.size, Base.RowAt.new u _ _, l8⟩ ⟨by decide, (Base.KeptBut.refl _ _).alloc _⟩
    · intro L α a u K hL hcl hG hA hS h0 hK
      have q18 : a.tmps[18]? = some (.pointer (some ⟨α 10, 0, none⟩)) := hS 10 18 (by decide) rfl (by show 18 < 21; decide)
      have s18 := Rega.eval_of q18
      go_simp
      exact hK _ α _ (fun _ _ => rfl) rfl trivial ⟨by decide, .refl _ _⟩
    · intro L α a u K hL hcl hG hA hS h0 hK
      have q8 : a.tmps[8]? = some (.agg #[.int .i32 loc]) := hS 0 8 (by decide) rfl (by show 8 < 21; decide)
      have s8 := Rega.eval_of q8
      have q19 : a.tmps[19]? = some (.iface 41 (.pointer (some ⟨α 10, 0, none⟩))) := hS 11 19 (by decide) rfl (by show 19 < 21; decide)
      have s19 := Rega.eval_of q19
      go_simp
      exact hK _ α _ (fun _ _ => rfl) rfl trivial ⟨by decide, .refl _ _⟩
    · intro L α a u K hL hcl hG hA hS h0 hK
      have q7 : a.tmps[7]? = some (.pointer (some ⟨B + 1 + 1, 0, none⟩)) := (h0 7 (by kernel_rfl)).trans rfl
      have s7 := Rega.eval_of q7
      have q20 : a.tmps[20]? = some (.agg #[.iface 41 (.pointer (some ⟨α 10, 0, none⟩)), .int .i32 loc]) := hS 12 20 (by decide) rfl (by show 20 < 21; decide)
      have s20 := Rega.eval_of q20
      have hr := (hG.2 hL)
      have x0 : u.cell? ⟨B + 1 + 1, 0, none⟩ = some (.nilIface) := hr.cell rfl
      have y0 : u.frozen? ⟨B + 1 + 1, 0, none⟩ = false := hr.free 0
      have x1 : u.cell? ⟨B + 1 + 1, 1, none⟩ = some (.int .i32 0) := hr.cell rfl
      have y1 : u.frozen? ⟨B + 1 + 1, 1, none⟩ = false := hr.free 1
      have HR := Lib.hid hr
      clear hr
      go_simp
      exact hK _ α _ (fun _ _ => rfl) rfl ((HR.out.set 0 _).set 1 _) ⟨by decide, ((Base.KeptBut.refl _ _).setCell (Or.inl (by simp [rLgMods])) _).setCell (Or.inl (by simp [rLgMods])) _⟩
  · intro α u hG hF
    have f8_0 : N ≤ α 8 := (hF 8 (by decide)).1
    have f8_1 : Base.RowAt u (α 8) 47 #[.iface T2 (.pointer (some ⟨x2, 0, none⟩)), .int .i32 l2, .iface TR (.pointer (some ⟨xr, 0, none⟩)), .int .i32 lr, .int .u8 37, .bool false] := (hF 8 (by decide)).2
    have f10_0 : N ≤ α 10 := (hF 10 (by decide)).1
    have f10_1 : Base.RowAt u (α 10) 47 #[.iface T1 (.pointer (some ⟨x1, 0, none⟩)), .int .i32 l1, .iface 41 (.pointer (some ⟨α 8, 0, none⟩)), .int .i32 l2, .int .u8 op, .bool false] := (hF 10 (by decide)).2.1
    have f10_2 : α 8 < α 10 := (hF 10 (by decide)).2.2
    have f13_0 : Base.RowAt u (B + 1 + 1) 34 #[.iface 41 (.pointer (some ⟨α 10, 0, none⟩)), .int .i32 loc] := (hF 13 (by decide))
    clear hF
    generalize hfr : Rega.frameAt _ _ _ _ _ = fr
    have hdf : fr = ⟨#[.agg #[.iface T1 (.pointer (some ⟨x1, 0, none⟩)), .int .i32 l1], .agg #[.iface T2 (.pointer (some ⟨x2, 0, none⟩)), .int .i32 l2], .pointer (some ⟨bl, 0, none⟩), .pointer (some ⟨bo, 0, none⟩), .pointer (some ⟨be, 0, none⟩), .pointer (some ⟨B, 0, none⟩), .pointer (some ⟨B + 1, 0, none⟩), .pointer (some ⟨B + 1 + 1, 0, none⟩), .agg #[.int .i32 loc], .int .u8 op, .agg #[.iface T1 (.pointer (some ⟨x1, 0, none⟩)), .int .i32 l1], .agg #[.iface T2 (.pointer (some ⟨x2, 0, none⟩)), .int .i32 l2], .pointer (some ⟨eb, 0, none⟩), .pointer (some ⟨eb, 0, none⟩), .pointer (some ⟨eb, 2, none⟩), .agg #[.iface TR (.pointer (some ⟨xr, 0, none⟩)), .int .i32 lr], .agg #[.iface 41 (.pointer (some ⟨α 8, 0, none⟩)), .int .i32 l2], .agg #[.iface T1 (.pointer (some ⟨x1, 0, none⟩)), .int .i32 l1, .iface 41 (.pointer (some ⟨α 8, 0, none⟩)), .int .i32 l2, .int .u8 op, .bool false], .pointer (some ⟨α 10, 0, none⟩), .iface 41 (.pointer (some ⟨α 10, 0, none⟩)), .agg #[.iface 41 (.pointer (some ⟨α 10, 0, none⟩)), .int .i32 loc]], []⟩ := by rw [← hfr]; kernel_rfl
    clear hfr
    subst hdf
    have z0 : u.cell? ⟨B + 1 + 1, 0, none⟩ = some (.iface 41 (.pointer (some ⟨α 10, 0, none⟩))) := f13_0.cell rfl
    have z1 : u.cell? ⟨B + 1 + 1, 1, none⟩ = some (.int .i32 loc) := f13_0.cell rfl
    go_wp2
    have hB := HB.out
    have hbu : Below w.heap.size w u := hbW.trans (hG.1.below hbW.size (fun k hk => by simp at hk; omega))
    refine bodyPost_ret (v := .agg #[.iface 41 (.pointer (some ⟨α 10, 0, none⟩)), .int .i32 loc]) ?_ rfl ?_
    · simp [results, Tryd.results45, go_sem, z0, z1]
    · exact ⟨α 10, α 8, rfl, by omega, f10_2, hbu, f10_1, f8_1⟩
end Go.Proofs.YtlgefnjkoklboaaDoor.Use
