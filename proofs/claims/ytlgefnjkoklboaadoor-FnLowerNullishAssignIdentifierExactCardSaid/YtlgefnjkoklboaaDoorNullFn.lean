/- The callback of the lowering of a nullish assignment, walked. No condition. -/
import Derived.Test.YtlgefnjkoklboaaDoorLowIdent
namespace Go.Proofs.YtlgefnjkoklboaaDoor.Use
open Go.ChangeShapes Go.WideShapes Go.ChangeAt Go.RowKit Go.Sort
set_option linter.unusedVariables false
def rNnE (B N bp bl be eb pb T1 x1 T2 x2 TR xr : Nat) (x loc l1 l2 lr : Int) : Nat → Rega.Atoms → Value
  | 0, α => .agg #[.int .i32 loc]
  | 1, α => .agg #[.iface T1 (.pointer (some ⟨x1, 0, none⟩)), .int .i32 l1]
  | 2, α => .agg #[.iface T2 (.pointer (some ⟨x2, 0, none⟩)), .int .i32 l2]
  | 3, α => .pointer (some ⟨eb, 0, none⟩)
  | 4, α => .pointer (some ⟨eb, 0, none⟩)
  | 5, α => .pointer (some ⟨eb, 2, none⟩)
  | 6, α => .agg #[.iface TR (.pointer (some ⟨xr, 0, none⟩)), .int .i32 lr]
  | 7, α => .agg #[.iface 41 (.pointer (some ⟨α 7, 0, none⟩)), .int .i32 l2]
  | 8, α => .agg #[.iface T1 (.pointer (some ⟨x1, 0, none⟩)), .int .i32 l1, .iface 41 (.pointer (some ⟨α 7, 0, none⟩)), .int .i32 l2, .int .u8 30, .bool false]
  | 9, α => .pointer (some ⟨α 9, 0, none⟩)
  | 10, α => .iface 41 (.pointer (some ⟨α 9, 0, none⟩))
  | 11, α => .agg #[.iface 41 (.pointer (some ⟨α 9, 0, none⟩)), .int .i32 loc]
  | 12, α => undef
  | _, _ => undef
def rNnF (B N bp bl be eb pb T1 x1 T2 x2 TR xr : Nat) (x loc l1 l2 lr : Int) : Nat → (Nat → Bool) → Rega.Atoms → World → Prop
  | 7, L, α, u => N ≤ α 7 ∧ Base.RowAt u (α 7) 47 #[.iface T2 (.pointer (some ⟨x2, 0, none⟩)), .int .i32 l2, .iface TR (.pointer (some ⟨xr, 0, none⟩)), .int .i32 lr, .int .u8 37, .bool false]
  | 9, L, α, u => N ≤ α 9 ∧ Base.RowAt u (α 9) 47 #[.iface T1 (.pointer (some ⟨x1, 0, none⟩)), .int .i32 l1, .iface 41 (.pointer (some ⟨α 7, 0, none⟩)), .int .i32 l2, .int .u8 30, .bool false] ∧ α 7 < α 9
  | 12, L, α, u => Base.RowAt u (B + 1 + 1) 34 #[.iface 41 (.pointer (some ⟨α 9, 0, none⟩)), .int .i32 loc]
  | _, _, _, _ => True
def rNnAnc : Nat → List Nat
  | 4 => [3]
  | 5 => [3, 4]
  | 6 => [3, 4, 5]
  | 7 => [2, 3, 4, 5, 6]
  | 8 => [1, 2, 3, 4, 5, 6, 7]
  | 9 => [1, 2, 3, 4, 5, 6, 7, 8]
  | 10 => [1, 2, 3, 4, 5, 6, 7, 8, 9]
  | 11 => [0, 1, 2, 3, 4, 5, 6, 7, 8, 9, 10]
  | 12 => [0, 1, 2, 3, 4, 5, 6, 7, 8, 9, 10, 11]
  | _ => []
def rNnMods (B N bp bl be eb pb T1 x1 T2 x2 TR xr : Nat) (x loc l1 l2 lr : Int) : Nat → List Nat
  | 12 => [B + 1 + 1]
  | _ => []
def rNnStep (B N bp bl be eb pb T1 x1 T2 x2 TR xr : Nat) (x loc l1 l2 lr : Int) (ii : Nat) (_ : Rega.Atoms) (w w' : World) : Prop := ii < 13 ∧ Base.KeptBut (rNnMods B N bp bl be eb pb T1 x1 T2 x2 TR xr x loc l1 l2 lr ii) w w'
def rNnG (B N bp bl be eb pb T1 x1 T2 x2 TR xr : Nat) (x loc l1 l2 lr : Int) (W : World) (L : Nat → Bool) (u : World) : Prop := Base.KeptBut [B + 1 + 1] W u ∧ (L 12 = false → Base.RowAt u (B + 1 + 1) 34 #[.nilIface, .int .i32 0])
theorem rNn_he (B N bp bl be eb pb T1 x1 T2 x2 TR xr : Nat) (x loc l1 l2 lr : Int) : ∀ kk α α', (∀ j, (j % 1000 = kk ∨ j % 1000 ∈ rNnAnc kk) → α j = α' j) → rNnE B N bp bl be eb pb T1 x1 T2 x2 TR xr x loc l1 l2 lr kk α = rNnE B N bp bl be eb pb T1 x1 T2 x2 TR xr x loc l1 l2 lr kk α' := by
  intro kk α α' h
  match kk with
  | 0 => rfl
  | 1 => rfl
  | 2 => rfl
  | 3 => rfl
  | 4 => rfl
  | 5 => rfl
  | 6 => rfl
  | 7 => simp only [rNnE, h 7 (Or.inl rfl)]
  | 8 => simp only [rNnE, h 7 (Or.inr (by decide))]
  | 9 => simp only [rNnE, h 9 (Or.inl rfl)]
  | 10 => simp only [rNnE, h 9 (Or.inr (by decide))]
  | 11 => simp only [rNnE, h 9 (Or.inr (by decide))]
  | 12 => rfl
  | n + 13 => rfl
theorem rNn_hF (B N bp bl be eb pb T1 x1 T2 x2 TR xr : Nat) (x loc l1 l2 lr : Int) : ∀ kk L α α' u, (∀ j, (j % 1000 = kk ∨ j % 1000 ∈ rNnAnc kk) → α j = α' j) → rNnF B N bp bl be eb pb T1 x1 T2 x2 TR xr x loc l1 l2 lr kk L α u → rNnF B N bp bl be eb pb T1 x1 T2 x2 TR xr x loc l1 l2 lr kk L α' u := by
  intro kk L α α' u h hf
  match kk with
  | 0 => trivial
  | 1 => trivial
  | 2 => trivial
  | 3 => trivial
  | 4 => trivial
  | 5 => trivial
  | 6 => trivial
  | 7 => simpa only [rNnF, h 7 (Or.inl rfl)] using hf
  | 8 => trivial
  | 9 => simpa only [rNnF, h 7 (Or.inr (by decide)), h 9 (Or.inl rfl)] using hf
  | 10 => trivial
  | 11 => trivial
  | 12 => simpa only [rNnF, h 9 (Or.inr (by decide))] using hf
  | n + 13 => trivial
theorem rNn_mods (B N bp bl be eb pb T1 x1 T2 x2 TR xr : Nat) (x loc l1 l2 lr : Int) (hBN : B + 3 ≤ N) : ∀ ii xq, xq ∈ rNnMods B N bp bl be eb pb T1 x1 T2 x2 TR xr x loc l1 l2 lr ii → xq < N := by
  intro ii xq hx
  unfold rNnMods at hx
  split at hx <;> simp at hx <;> omega
theorem rNn_hFs (B N bp bl be eb pb T1 x1 T2 x2 TR xr : Nat) (x loc l1 l2 lr : Int) (hBN : B + 3 ≤ N) : ∀ kk ii L α u u', ii ≠ kk → ii ∉ rNnAnc kk → L kk = true → L ii = false → (∀ j, L j = true → ∀ i, i ∈ rNnAnc j → L i = true) → (∀ j, j ∈ rNnAnc ii → L j = true) → rNnStep B N bp bl be eb pb T1 x1 T2 x2 TR xr x loc l1 l2 lr ii α u u' → rNnF B N bp bl be eb pb T1 x1 T2 x2 TR xr x loc l1 l2 lr kk L α u → rNnF B N bp bl be eb pb T1 x1 T2 x2 TR xr x loc l1 l2 lr kk (Rega.ran L ii) α u' := by
  intro kk ii L α u u' hne hni hLk hLi hcl hai hst hf
  have hm := rNn_mods B N bp bl be eb pb T1 x1 T2 x2 TR xr x loc l1 l2 lr hBN ii
  match kk with
  | 0 => trivial
  | 1 => trivial
  | 2 => trivial
  | 3 => trivial
  | 4 => trivial
  | 5 => trivial
  | 6 => trivial
  | 7 =>
    refine ⟨?_, ?_⟩
    · exact hf.1
    · exact hf.2.kept hst.2 (fun h => by have h1 := hm _ h; have h2 := hf.1; omega)
  | 8 => trivial
  | 9 =>
    refine ⟨?_, ?_, ?_⟩
    · exact hf.1
    · exact hf.2.1.kept hst.2 (fun h => by have h1 := hm _ h; have h2 := hf.1; omega)
    · exact hf.2.2
  | 10 => trivial
  | 11 => trivial
  | 12 =>
    refine hf.kept hst.2 ?_
    intro h
    unfold rNnMods at h
    split at h <;> first | exact absurd rfl hne | exact hni (by decide) | (simp at h; done) | (simp at h; omega)
  | n + 13 => trivial
theorem rNn_hGs (B N bp bl be eb pb T1 x1 T2 x2 TR xr : Nat) (x loc l1 l2 lr : Int) (hBN : B + 3 ≤ N) (W : World) : ∀ ii L α u u', L ii = false → (∀ j, L j = true → ∀ i, i ∈ rNnAnc j → L i = true) → (∀ j, j ∈ rNnAnc ii → L j = true) → rNnStep B N bp bl be eb pb T1 x1 T2 x2 TR xr x loc l1 l2 lr ii α u u' → rNnG B N bp bl be eb pb T1 x1 T2 x2 TR xr x loc l1 l2 lr W L u → rNnG B N bp bl be eb pb T1 x1 T2 x2 TR xr x loc l1 l2 lr W (Rega.ran L ii) u' := by
  intro ii L α u u' hLi hcl hai hst hG
  obtain ⟨hk, g0⟩ := hG
  refine ⟨hk.trans (hst.2.mono (fun x hx => by unfold rNnMods at hx; split at hx <;> simp at hx <;> simp [hx])), ?_⟩
  · intro hg
    have hik : ii ≠ 12 := by rintro rfl; simp [Rega.ran] at hg
    have hLn : L 12 = false := by simpa [Rega.ran, Ne.symm hik] using hg
    refine (g0 hLn).kept hst.2 ?_
    intro h
    unfold rNnMods at h
    split at h <;> first | exact absurd rfl hik | exact absurd (hai 12 (by decide)) (by rw [hLn]; decide) | (simp at h; done) | (simp at h; omega)

set_option maxRecDepth 100000 in
set_option maxHeartbeats 1000000 in
theorem nullFnNo (bp bl be eb pb T1 x1 T2 x2 TR xr : Nat) (x loc l1 l2 lr : Int) (w : World)
   (kp : w.cell? ⟨bp, 0, none⟩ = some (.pointer (some ⟨pb, 0, none⟩))) (hx : w.cell? ⟨pb, 23, none⟩ = some (.int .u64 x))
   (k0 : w.cell? ⟨bl, 0, none⟩ = some (.int .i32 loc)) (k2 : w.cell? ⟨be, 0, none⟩ = some (.pointer (some ⟨eb, 0, none⟩)))
   (k3 : w.cell? ⟨eb, 2, none⟩ = some (.iface TR (.pointer (some ⟨xr, 0, none⟩)))) (k4 : w.cell? ⟨eb, 3, none⟩ = some (.int .i32 lr)) (hx1 : (bits BinOp.and IntKind.u64 x 4398046511104 != 0) = false) :
    Calls Tryd.prog 49 #[.agg #[.iface T1 (.pointer (some ⟨x1, 0, none⟩)), .int .i32 l1], .agg #[.iface T2 (.pointer (some ⟨x2, 0, none⟩)), .int .i32 l2], .pointer (some ⟨bp, 0, none⟩), .pointer (some ⟨bl, 0, none⟩), .pointer (some ⟨be, 0, none⟩)] w (Logical T1 x1 T2 x2 TR xr loc 30 l1 l2 lr w) := by
  have l0 := Base.block_of_cell k0
  have lp := Base.block_of_cell kp
  have lx := Base.block_of_cell hx
  have l2' := Base.block_of_cell k2
  have l3 := Base.block_of_cell k3
  go_enter Tryd.func49, Tryd.ntmps49
  go_wp2_with (go_at_call 43; go_in)
  generalize hW : World.alloc _ _ = W
  have hz : w.heap.size + 3 ≤ W.heap.size := by rw [← hW]; simp <;> omega
  have hbW : Below w.heap.size w W := by rw [← hW]; go_grown
  have r0 : Base.RowAt W (w.heap.size) 34 #[.iface T1 (.pointer (some ⟨x1, 0, none⟩)), .int .i32 l1] := by
    rw [← hW]
    repeat (first | (refine Base.RowAt.new' _ _ _ _ ?_; simp; done) | refine Base.RowAt.drew ?_ | refine Base.RowAt.alloc ?_ _)
  have r1 : Base.RowAt W (w.heap.size + 1) 34 #[.iface T2 (.pointer (some ⟨x2, 0, none⟩)), .int .i32 l2] := by
    rw [← hW]
    repeat (first | (refine Base.RowAt.new' _ _ _ _ ?_; simp; done) | refine Base.RowAt.drew ?_ | refine Base.RowAt.alloc ?_ _)
  have r2 : Base.RowAt W (w.heap.size + 1 + 1) 34 #[.nilIface, .int .i32 0] := by
    rw [← hW]
    repeat (first | (refine Base.RowAt.new' _ _ _ _ ?_; simp; done) | refine Base.RowAt.drew ?_ | refine Base.RowAt.alloc ?_ _)
  clear hW
  obtain ⟨B, hB⟩ : ∃ B, B = w.heap.size := ⟨_, rfl⟩
  obtain ⟨N, hNe⟩ : ∃ N, N = W.heap.size := ⟨_, rfl⟩
  have hNW : N ≤ W.heap.size := Nat.le_of_eq hNe
  have hBN : B + 3 ≤ N := by omega
  have HNe := Lib.hid hNe
  rw [← hB] at r0 r1 r2 ⊢
  have HB := Lib.hid hB
  clear hB hNe
  have kp := Base.cell_below hbW lp kp
  have k0 := Base.cell_below hbW l0 k0
  have k2 := Base.cell_below hbW l2' k2
  have k3 := Base.cell_below hbW l3 k3
  have k4 := Base.cell_below hbW l3 k4
  have hBl : bl < B := by have := HB.out; omega
  have hBp : bp < B := by have := HB.out; omega
  have hBe : be < B := by have := HB.out; omega
  have hEb : eb < B := by have := HB.out; omega
  refine Rega.wp_region_atoms (e := rNnE B N bp bl be eb pb T1 x1 T2 x2 TR xr x loc l1 l2 lr) (F := rNnF B N bp bl be eb pb T1 x1 T2 x2 TR xr x loc l1 l2 lr) (anc := rNnAnc) (G := rNnG B N bp bl be eb pb T1 x1 T2 x2 TR xr x loc l1 l2 lr W) (Step := rNnStep B N bp bl be eb pb T1 x1 T2 x2 TR xr x loc l1 l2 lr) (by kernel_rfl) (by kernel_rfl) (by kernel_rfl) (by kernel_rfl) (rNn_he B N bp bl be eb pb T1 x1 T2 x2 TR xr x loc l1 l2 lr) (rNn_hF B N bp bl be eb pb T1 x1 T2 x2 TR xr x loc l1 l2 lr) (rNn_hFs B N bp bl be eb pb T1 x1 T2 x2 TR xr x loc l1 l2 lr hBN) (rNn_hGs B N bp bl be eb pb T1 x1 T2 x2 TR xr x loc l1 l2 lr hBN W) ⟨(Base.KeptBut.refl _ _).drew, fun _ => r2.drew⟩ (Rega.RunsAll.all ?_) ?_
  · refine ⟨?_, ?_, ?_, ?_, ?_, ?_, ?_, ?_, ?_, ?_, ?_, ?_, ?_, trivial⟩
    · intro L α a u K hL hcl hG hA hS h0 hK
      have q3 : a.tmps[3]? = some (.pointer (some ⟨bl, 0, none⟩)) := (h0 3 (by kernel_rfl)).trans rfl
      have s3 := Rega.eval_of q3
      have c0 : u.cell? ⟨bl, 0, none⟩ = some (.int .i32 loc) := hG.1.cell_some k0 (by simp <;> omega)
      go_simp
      exact hK _ α _ (fun _ _ => rfl) rfl trivial ⟨by decide, .refl _ _⟩
    · intro L α a u K hL hcl hG hA hS h0 hK
      have q5 : a.tmps[5]? = some (.pointer (some ⟨B, 0, none⟩)) := (h0 5 (by kernel_rfl)).trans rfl
      have s5 := Rega.eval_of q5
      have c0 : u.cell? ⟨B, 0, none⟩ = some (.iface T1 (.pointer (some ⟨x1, 0, none⟩))) := hG.1.cell_some (r0.cell rfl) (by simp <;> omega)
      have c1 : u.cell? ⟨B, 1, none⟩ = some (.int .i32 l1) := hG.1.cell_some (r0.cell rfl) (by simp <;> omega)
      go_simp
      exact hK _ α _ (fun _ _ => rfl) rfl trivial ⟨by decide, .refl _ _⟩
    · intro L α a u K hL hcl hG hA hS h0 hK
      have q6 : a.tmps[6]? = some (.pointer (some ⟨B + 1, 0, none⟩)) := (h0 6 (by kernel_rfl)).trans rfl
      have s6 := Rega.eval_of q6
      have c0 : u.cell? ⟨B + 1, 0, none⟩ = some (.iface T2 (.pointer (some ⟨x2, 0, none⟩))) := hG.1.cell_some (r1.cell rfl) (by simp <;> omega)
      have c1 : u.cell? ⟨B + 1, 1, none⟩ = some (.int .i32 l2) := hG.1.cell_some (r1.cell rfl) (by simp <;> omega)
      go_simp
      exact hK _ α _ (fun _ _ => rfl) rfl trivial ⟨by decide, .refl _ _⟩
    · intro L α a u K hL hcl hG hA hS h0 hK
      have q4 : a.tmps[4]? = some (.pointer (some ⟨be, 0, none⟩)) := (h0 4 (by kernel_rfl)).trans rfl
      have s4 := Rega.eval_of q4
      have c0 : u.cell? ⟨be, 0, none⟩ = some (.pointer (some ⟨eb, 0, none⟩)) := hG.1.cell_some k2 (by simp <;> omega)
      go_simp
      exact hK _ α _ (fun _ _ => rfl) rfl trivial ⟨by decide, .refl _ _⟩
    · intro L α a u K hL hcl hG hA hS h0 hK
      have q28 : a.tmps[28]? = some (.pointer (some ⟨eb, 0, none⟩)) := hS 3 28 (by decide) rfl (by show 28 < 37; decide)
      have s28 := Rega.eval_of q28
      go_simp
      exact hK _ α _ (fun _ _ => rfl) rfl trivial ⟨by decide, .refl _ _⟩
    · intro L α a u K hL hcl hG hA hS h0 hK
      have q29 : a.tmps[29]? = some (.pointer (some ⟨eb, 0, none⟩)) := hS 4 29 (by decide) rfl (by show 29 < 37; decide)
      have s29 := Rega.eval_of q29
      go_simp
      exact hK _ α _ (fun _ _ => rfl) rfl trivial ⟨by decide, .refl _ _⟩
    · intro L α a u K hL hcl hG hA hS h0 hK
      have q30 : a.tmps[30]? = some (.pointer (some ⟨eb, 2, none⟩)) := hS 5 30 (by decide) rfl (by show 30 < 37; decide)
      have s30 := Rega.eval_of q30
      have c0 : u.cell? ⟨eb, 2, none⟩ = some (.iface TR (.pointer (some ⟨xr, 0, none⟩))) := hG.1.cell_some k3 (by simp <;> omega)
      have c1 : u.cell? ⟨eb, 3, none⟩ = some (.int .i32 lr) := hG.1.cell_some k4 (by simp <;> omega)
      go_simp
      exact hK _ α _ (fun _ _ => rfl) rfl trivial ⟨by decide, .refl _ _⟩
    · intro L α a u K hL hcl hG hA hS h0 hK
      have q27 : a.tmps[27]? = some (.agg #[.iface T2 (.pointer (some ⟨x2, 0, none⟩)), .int .i32 l2]) := hS 2 27 (by decide) rfl (by show 27 < 37; decide)
      have s27 := Rega.eval_of q27
      have q31 : a.tmps[31]? = some (.agg #[.iface TR (.pointer (some ⟨xr, 0, none⟩)), .int .i32 lr]) := hS 6 31 (by decide) rfl (by show 31 < 37; decide)
      have s31 := Rega.eval_of q31
      go_simp
      refine Calls.mono (assign T2 x2 TR xr l2 lr _) ?_
      rintro e u1 ⟨b, rfl, hlo, hb, hr⟩
      exact hK _ (fun j => if j = 7 then b else α j) _ (fun j hj => if_neg (by omega)) rfl ⟨Nat.le_trans (Nat.le_trans hNW hG.1.size) hlo, hr⟩ ⟨by decide, Base.KeptBut.of_below hb⟩
    · intro L α a u K hL hcl hG hA hS h0 hK
      have q26 : a.tmps[26]? = some (.agg #[.iface T1 (.pointer (some ⟨x1, 0, none⟩)), .int .i32 l1]) := hS 1 26 (by decide) rfl (by show 26 < 37; decide)
      have s26 := Rega.eval_of q26
      have q32 : a.tmps[32]? = some (.agg #[.iface 41 (.pointer (some ⟨α 7, 0, none⟩)), .int .i32 l2]) := hS 7 32 (by decide) rfl (by show 32 < 37; decide)
      have s32 := Rega.eval_of q32
      go_simp
      exact hK _ α _ (fun _ _ => rfl) rfl trivial ⟨by decide, .refl _ _⟩
    · intro L α a u K hL hcl hG hA hS h0 hK
      have q33 : a.tmps[33]? = some (.agg #[.iface T1 (.pointer (some ⟨x1, 0, none⟩)), .int .i32 l1, .iface 41 (.pointer (some ⟨α 7, 0, none⟩)), .int .i32 l2, .int .u8 30, .bool false]) := hS 8 33 (by decide) rfl (by show 33 < 37; decide)
      have s33 := Rega.eval_of q33
      have l7 : α 7 < u.heap.size := (hA 7 (by decide)).2.2.lt
      go_simp
      exact hK _ (fun j => if j = 9 then u.heap.size else α j) _ (fun j hj => if_neg (by omega)) rfl ⟨Nat.le_trans hNW hG.1.size, Base.RowAt.new u _ _, l7⟩ ⟨by decide, (Base.KeptBut.refl _ _).alloc _⟩
    · intro L α a u K hL hcl hG hA hS h0 hK
      have q34 : a.tmps[34]? = some (.pointer (some ⟨α 9, 0, none⟩)) := hS 9 34 (by decide) rfl (by show 34 < 37; decide)
      have s34 := Rega.eval_of q34
      go_simp
      exact hK _ α _ (fun _ _ => rfl) rfl trivial ⟨by decide, .refl _ _⟩
    · intro L α a u K hL hcl hG hA hS h0 hK
      have q25 : a.tmps[25]? = some (.agg #[.int .i32 loc]) := hS 0 25 (by decide) rfl (by show 25 < 37; decide)
      have s25 := Rega.eval_of q25
      have q35 : a.tmps[35]? = some (.iface 41 (.pointer (some ⟨α 9, 0, none⟩))) := hS 10 35 (by decide) rfl (by show 35 < 37; decide)
      have s35 := Rega.eval_of q35
      go_simp
      exact hK _ α _ (fun _ _ => rfl) rfl trivial ⟨by decide, .refl _ _⟩
    · intro L α a u K hL hcl hG hA hS h0 hK
      have q7 : a.tmps[7]? = some (.pointer (some ⟨B + 1 + 1, 0, none⟩)) := (h0 7 (by kernel_rfl)).trans rfl
      have s7 := Rega.eval_of q7
      have q36 : a.tmps[36]? = some (.agg #[.iface 41 (.pointer (some ⟨α 9, 0, none⟩)), .int .i32 loc]) := hS 11 36 (by decide) rfl (by show 36 < 37; decide)
      have s36 := Rega.eval_of q36
      have hr := (hG.2 hL)
      have x0 : u.cell? ⟨B + 1 + 1, 0, none⟩ = some (.nilIface) := hr.cell rfl
      have y0 : u.frozen? ⟨B + 1 + 1, 0, none⟩ = false := hr.free 0
      have x1 : u.cell? ⟨B + 1 + 1, 1, none⟩ = some (.int .i32 0) := hr.cell rfl
      have y1 : u.frozen? ⟨B + 1 + 1, 1, none⟩ = false := hr.free 1
      have HR := Lib.hid hr
      clear hr
      go_simp
      exact hK _ α _ (fun _ _ => rfl) rfl ((HR.out.set 0 _).set 1 _) ⟨by decide, ((Base.KeptBut.refl _ _).setCell (Or.inl (by simp [rNnMods])) _).setCell (Or.inl (by simp [rNnMods])) _⟩
  · intro α u hG hF
    have f7_0 : N ≤ α 7 := (hF 7 (by decide)).1
    have f7_1 : Base.RowAt u (α 7) 47 #[.iface T2 (.pointer (some ⟨x2, 0, none⟩)), .int .i32 l2, .iface TR (.pointer (some ⟨xr, 0, none⟩)), .int .i32 lr, .int .u8 37, .bool false] := (hF 7 (by decide)).2
    have f9_0 : N ≤ α 9 := (hF 9 (by decide)).1
    have f9_1 : Base.RowAt u (α 9) 47 #[.iface T1 (.pointer (some ⟨x1, 0, none⟩)), .int .i32 l1, .iface 41 (.pointer (some ⟨α 7, 0, none⟩)), .int .i32 l2, .int .u8 30, .bool false] := (hF 9 (by decide)).2.1
    have f9_2 : α 7 < α 9 := (hF 9 (by decide)).2.2
    have f12_0 : Base.RowAt u (B + 1 + 1) 34 #[.iface 41 (.pointer (some ⟨α 9, 0, none⟩)), .int .i32 loc] := (hF 12 (by decide))
    clear hF
    generalize hfr : Rega.frameAt _ _ _ _ _ = fr
    have hdf : fr = ⟨#[.agg #[.iface T1 (.pointer (some ⟨x1, 0, none⟩)), .int .i32 l1], .agg #[.iface T2 (.pointer (some ⟨x2, 0, none⟩)), .int .i32 l2], .pointer (some ⟨bp, 0, none⟩), .pointer (some ⟨bl, 0, none⟩), .pointer (some ⟨be, 0, none⟩), .pointer (some ⟨B, 0, none⟩), .pointer (some ⟨B + 1, 0, none⟩), .pointer (some ⟨B + 1 + 1, 0, none⟩), .pointer (some ⟨pb, 0, none⟩), .pointer (some ⟨pb, 0, none⟩), .pointer (some ⟨pb, 0, none⟩), .pointer (some ⟨pb, 18, none⟩), .pointer (some ⟨pb, 23, none⟩), .int .u64 x, .bool false, undef, undef, undef, undef, undef, undef, undef, undef, undef, undef, .agg #[.int .i32 loc], .agg #[.iface T1 (.pointer (some ⟨x1, 0, none⟩)), .int .i32 l1], .agg #[.iface T2 (.pointer (some ⟨x2, 0, none⟩)), .int .i32 l2], .pointer (some ⟨eb, 0, none⟩), .pointer (some ⟨eb, 0, none⟩), .pointer (some ⟨eb, 2, none⟩), .agg #[.iface TR (.pointer (some ⟨xr, 0, none⟩)), .int .i32 lr], .agg #[.iface 41 (.pointer (some ⟨α 7, 0, none⟩)), .int .i32 l2], .agg #[.iface T1 (.pointer (some ⟨x1, 0, none⟩)), .int .i32 l1, .iface 41 (.pointer (some ⟨α 7, 0, none⟩)), .int .i32 l2, .int .u8 30, .bool false], .pointer (some ⟨α 9, 0, none⟩), .iface 41 (.pointer (some ⟨α 9, 0, none⟩)), .agg #[.iface 41 (.pointer (some ⟨α 9, 0, none⟩)), .int .i32 loc]], []⟩ := by rw [← hfr]; kernel_rfl
    clear hfr
    subst hdf
    have z0 : u.cell? ⟨B + 1 + 1, 0, none⟩ = some (.iface 41 (.pointer (some ⟨α 9, 0, none⟩))) := f12_0.cell rfl
    have z1 : u.cell? ⟨B + 1 + 1, 1, none⟩ = some (.int .i32 loc) := f12_0.cell rfl
    go_wp2
    have hB := HB.out
    have hbu : Below w.heap.size w u := hbW.trans (hG.1.below hbW.size (fun k hk => by simp at hk; omega))
    refine bodyPost_ret (v := .agg #[.iface 41 (.pointer (some ⟨α 9, 0, none⟩)), .int .i32 loc]) ?_ rfl ?_
    · simp [results, Tryd.results49, go_sem, z0, z1]
    · exact ⟨α 9, α 7, rfl, by omega, f9_2, hbu, f9_1, f7_1⟩
def rNyE (B N bp bl be eb pb x1 T2 x2 TR xr sb i c : Nat) (x loc l1 l2 lr src : Int) (C : Array Value) : Nat → Rega.Atoms → Value
  | 0, α => .pointer (some ⟨pb, 0, none⟩)
  | 1, α => .agg #[.int .i32 loc]
  | 2, α => .agg #[.iface 55 (.pointer (some ⟨x1, 0, none⟩)), .int .i32 l1]
  | 3, α => .agg #[.iface T2 (.pointer (some ⟨x2, 0, none⟩)), .int .i32 l2]
  | 4, α => .pointer (some ⟨eb, 0, none⟩)
  | 5, α => .pointer (some ⟨eb, 0, none⟩)
  | 6, α => .pointer (some ⟨eb, 2, none⟩)
  | 7, α => .agg #[.iface TR (.pointer (some ⟨xr, 0, none⟩)), .int .i32 lr]
  | 8, α => .agg #[.iface 41 (.pointer (some ⟨α 8, 0, none⟩)), .int .i32 l2]
  | 9, α => .agg #[.iface 39 (.pointer (some ⟨α 9, 0, none⟩)), .int .i32 loc]
  | 10, α => undef
  | _, _ => undef
def rNyF (B N bp bl be eb pb x1 T2 x2 TR xr sb i c : Nat) (x loc l1 l2 lr src : Int) (C : Array Value) : Nat → (Nat → Bool) → Rega.Atoms → World → Prop
  | 8, L, α, u => N ≤ α 8 ∧ Base.RowAt u (α 8) 47 #[.iface T2 (.pointer (some ⟨x2, 0, none⟩)), .int .i32 l2, .iface TR (.pointer (some ⟨xr, 0, none⟩)), .int .i32 lr, .int .u8 37, .bool false]
  | 9, L, α, u => N ≤ α 9 ∧ N ≤ α 1009 ∧ N ≤ α 2009 ∧ α 2009 < α 3009 ∧ N ≤ α 4009 ∧ Base.RowAt u (α 9) 44 #[.iface 41 (.pointer (some ⟨α 1009, 0, none⟩)), .int .i32 loc, .iface 55 (.pointer (some ⟨α 3009, 0, none⟩)), .int .i32 loc, .iface 41 (.pointer (some ⟨α 8, 0, none⟩)), .int .i32 l2] ∧ Base.RowAt u (α 1009) 47 #[.iface 55 (.pointer (some ⟨α 2009, 0, none⟩)), .int .i32 loc, .iface 211 (.pointer (some ⟨α 4009, 0, none⟩)), .int .i32 loc, .int .u8 27, .bool false] ∧ Base.RowAt u (α 2009) 214 #[.int .u32 src, .int .u32 (i : Int), .bool false, .bool false, .bool false] ∧ Base.RowAt u (α 3009) 214 #[.int .u32 src, .int .u32 (i : Int), .bool false, .bool false, .bool false] ∧ Base.RowAt u (α 4009) 235 #[] ∧ α 8 < α 9 ∧ α 8 < α 1009 ∧ α 8 < α 2009 ∧ Base.RowAt u sb 223 ((C.setIfInBounds (i * 10 + 4) (.int .u32 ((c + 1 : Nat) : Int))).setIfInBounds (i * 10 + 4) (.int .u32 ((c + 1 + 1 : Nat) : Int)))
  | 10, L, α, u => Base.RowAt u (B + 1 + 1) 34 #[.iface 39 (.pointer (some ⟨α 9, 0, none⟩)), .int .i32 loc]
  | _, _, _, _ => True
def rNyAnc : Nat → List Nat
  | 5 => [4]
  | 6 => [4, 5]
  | 7 => [4, 5, 6]
  | 8 => [3, 4, 5, 6, 7]
  | 9 => [0, 1, 2, 3, 4, 5, 6, 7, 8]
  | 10 => [0, 1, 2, 3, 4, 5, 6, 7, 8, 9]
  | _ => []
def rNyMods (B N bp bl be eb pb x1 T2 x2 TR xr sb i c : Nat) (x loc l1 l2 lr src : Int) (C : Array Value) : Nat → List Nat
  | 9 => [sb]
  | 10 => [B + 1 + 1]
  | _ => []
def rNyStep (B N bp bl be eb pb x1 T2 x2 TR xr sb i c : Nat) (x loc l1 l2 lr src : Int) (C : Array Value) (ii : Nat) (_ : Rega.Atoms) (w w' : World) : Prop := ii < 11 ∧ Base.KeptBut (rNyMods B N bp bl be eb pb x1 T2 x2 TR xr sb i c x loc l1 l2 lr src C ii) w w'
def rNyG (B N bp bl be eb pb x1 T2 x2 TR xr sb i c : Nat) (x loc l1 l2 lr src : Int) (C : Array Value) (W : World) (L : Nat → Bool) (u : World) : Prop := Base.KeptBut [B + 1 + 1, sb] W u ∧ (L 9 = false → Base.RowAt u sb 223 C) ∧ (L 10 = false → Base.RowAt u (B + 1 + 1) 34 #[.nilIface, .int .i32 0])
theorem rNy_he (B N bp bl be eb pb x1 T2 x2 TR xr sb i c : Nat) (x loc l1 l2 lr src : Int) (C : Array Value) : ∀ kk α α', (∀ j, (j % 1000 = kk ∨ j % 1000 ∈ rNyAnc kk) → α j = α' j) → rNyE B N bp bl be eb pb x1 T2 x2 TR xr sb i c x loc l1 l2 lr src C kk α = rNyE B N bp bl be eb pb x1 T2 x2 TR xr sb i c x loc l1 l2 lr src C kk α' := by
  intro kk α α' h
  match kk with
  | 0 => rfl
  | 1 => rfl
  | 2 => rfl
  | 3 => rfl
  | 4 => rfl
  | 5 => rfl
  | 6 => rfl
  | 7 => rfl
  | 8 => simp only [rNyE, h 8 (Or.inl rfl)]
  | 9 => simp only [rNyE, h 9 (Or.inl rfl)]
  | 10 => rfl
  | n + 11 => rfl
theorem rNy_hF (B N bp bl be eb pb x1 T2 x2 TR xr sb i c : Nat) (x loc l1 l2 lr src : Int) (C : Array Value) : ∀ kk L α α' u, (∀ j, (j % 1000 = kk ∨ j % 1000 ∈ rNyAnc kk) → α j = α' j) → rNyF B N bp bl be eb pb x1 T2 x2 TR xr sb i c x loc l1 l2 lr src C kk L α u → rNyF B N bp bl be eb pb x1 T2 x2 TR xr sb i c x loc l1 l2 lr src C kk L α' u := by
  intro kk L α α' u h hf
  match kk with
  | 0 => trivial
  | 1 => trivial
  | 2 => trivial
  | 3 => trivial
  | 4 => trivial
  | 5 => trivial
  | 6 => trivial
  | 7 => trivial
  | 8 => simpa only [rNyF, h 8 (Or.inl rfl)] using hf
  | 9 => simpa only [rNyF, h 8 (Or.inr (by decide)), h 9 (Or.inl rfl), h 1009 (Or.inl rfl), h 2009 (Or.inl rfl), h 3009 (Or.inl rfl), h 4009 (Or.inl rfl)] using hf
  | 10 => simpa only [rNyF, h 9 (Or.inr (by decide))] using hf
  | n + 11 => trivial
theorem rNy_mods (B N bp bl be eb pb x1 T2 x2 TR xr sb i c : Nat) (x loc l1 l2 lr src : Int) (C : Array Value) (hBN : B + 3 ≤ N) (hsB : sb < B) : ∀ ii xq, xq ∈ rNyMods B N bp bl be eb pb x1 T2 x2 TR xr sb i c x loc l1 l2 lr src C ii → xq < N := by
  intro ii xq hx
  unfold rNyMods at hx
  split at hx <;> simp at hx <;> omega
theorem rNy_hFs (B N bp bl be eb pb x1 T2 x2 TR xr sb i c : Nat) (x loc l1 l2 lr src : Int) (C : Array Value) (hBN : B + 3 ≤ N) (hsB : sb < B) : ∀ kk ii L α u u', ii ≠ kk → ii ∉ rNyAnc kk → L kk = true → L ii = false → (∀ j, L j = true → ∀ i, i ∈ rNyAnc j → L i = true) → (∀ j, j ∈ rNyAnc ii → L j = true) → rNyStep B N bp bl be eb pb x1 T2 x2 TR xr sb i c x loc l1 l2 lr src C ii α u u' → rNyF B N bp bl be eb pb x1 T2 x2 TR xr sb i c x loc l1 l2 lr src C kk L α u → rNyF B N bp bl be eb pb x1 T2 x2 TR xr sb i c x loc l1 l2 lr src C kk (Rega.ran L ii) α u' := by
  intro kk ii L α u u' hne hni hLk hLi hcl hai hst hf
  have hm := rNy_mods B N bp bl be eb pb x1 T2 x2 TR xr sb i c x loc l1 l2 lr src C hBN hsB ii
  match kk with
  | 0 => trivial
  | 1 => trivial
  | 2 => trivial
  | 3 => trivial
  | 4 => trivial
  | 5 => trivial
  | 6 => trivial
  | 7 => trivial
  | 8 =>
    refine ⟨?_, ?_⟩
    · exact hf.1
    · exact hf.2.kept hst.2 (fun h => by have h1 := hm _ h; have h2 := hf.1; omega)
  | 9 =>
    refine ⟨?_, ?_, ?_, ?_, ?_, ?_, ?_, ?_, ?_, ?_, ?_, ?_, ?_, ?_⟩
    · exact hf.1
    · exact hf.2.1
    · exact hf.2.2.1
    · exact hf.2.2.2.1
    · exact hf.2.2.2.2.1
    · exact hf.2.2.2.2.2.1.kept hst.2 (fun h => by have h1 := hm _ h; have h2 := hf.1; omega)
    · exact hf.2.2.2.2.2.2.1.kept hst.2 (fun h => by have h1 := hm _ h; have h2 := hf.2.1; omega)
    · exact hf.2.2.2.2.2.2.2.1.kept hst.2 (fun h => by have h1 := hm _ h; have h2 := hf.2.2.1; omega)
    · exact hf.2.2.2.2.2.2.2.2.1.kept hst.2 (fun h => by have h1 := hm _ h; have h2 := hf.2.2.1; have h3 := hf.2.2.2.1; omega)
    · exact hf.2.2.2.2.2.2.2.2.2.1.kept hst.2 (fun h => by have h1 := hm _ h; have h2 := hf.2.2.2.2.1; omega)
    · exact hf.2.2.2.2.2.2.2.2.2.2.1
    · exact hf.2.2.2.2.2.2.2.2.2.2.2.1
    · exact hf.2.2.2.2.2.2.2.2.2.2.2.2.1
    · refine hf.2.2.2.2.2.2.2.2.2.2.2.2.2.kept hst.2 ?_
      intro h
      unfold rNyMods at h
      split at h <;> first | exact absurd rfl hne | exact hni (by decide) | (simp at h; done) | (simp at h; omega)
  | 10 =>
    refine hf.kept hst.2 ?_
    intro h
    unfold rNyMods at h
    split at h <;> first | exact absurd rfl hne | exact hni (by decide) | (simp at h; done) | (simp at h; omega)
  | n + 11 => trivial
theorem rNy_hGs (B N bp bl be eb pb x1 T2 x2 TR xr sb i c : Nat) (x loc l1 l2 lr src : Int) (C : Array Value) (hBN : B + 3 ≤ N) (hsB : sb < B) (W : World) : ∀ ii L α u u', L ii = false → (∀ j, L j = true → ∀ i, i ∈ rNyAnc j → L i = true) → (∀ j, j ∈ rNyAnc ii → L j = true) → rNyStep B N bp bl be eb pb x1 T2 x2 TR xr sb i c x loc l1 l2 lr src C ii α u u' → rNyG B N bp bl be eb pb x1 T2 x2 TR xr sb i c x loc l1 l2 lr src C W L u → rNyG B N bp bl be eb pb x1 T2 x2 TR xr sb i c x loc l1 l2 lr src C W (Rega.ran L ii) u' := by
  intro ii L α u u' hLi hcl hai hst hG
  obtain ⟨hk, g0, g1⟩ := hG
  refine ⟨hk.trans (hst.2.mono (fun x hx => by unfold rNyMods at hx; split at hx <;> simp at hx <;> simp [hx])), ?_, ?_⟩
  · intro hg
    have hik : ii ≠ 9 := by rintro rfl; simp [Rega.ran] at hg
    have hLn : L 9 = false := by simpa [Rega.ran, Ne.symm hik] using hg
    refine (g0 hLn).kept hst.2 ?_
    intro h
    unfold rNyMods at h
    split at h <;> first | exact absurd rfl hik | exact absurd (hai 9 (by decide)) (by rw [hLn]; decide) | (simp at h; done) | (simp at h; omega)
  · intro hg
    have hik : ii ≠ 10 := by rintro rfl; simp [Rega.ran] at hg
    have hLn : L 10 = false := by simpa [Rega.ran, Ne.symm hik] using hg
    refine (g1 hLn).kept hst.2 ?_
    intro h
    unfold rNyMods at h
    split at h <;> first | exact absurd rfl hik | exact absurd (hai 10 (by decide)) (by rw [hLn]; decide) | (simp at h; done) | (simp at h; omega)

/-- 'x != null ? x : (b = r)' has been made. -/
def NullIf (sb i c T2 x2 TR xr : Nat) (loc l2 lr src : Int) (C : Array Value) (w : World) (e : Ending) (w' : World) : Prop :=
  ∃ bi bt b1 b2 bn ba, e = .returned (.agg #[.iface 39 (.pointer (some ⟨bi, 0, none⟩)), .int .i32 loc]) ∧ Base.KeptBut [sb] w w' ∧ Base.RowAt w' sb 223 ((C.setIfInBounds (i * 10 + 4) (.int .u32 ((c + 1 : Nat) : Int))).setIfInBounds (i * 10 + 4) (.int .u32 ((c + 1 + 1 : Nat) : Int))) ∧ w.heap.size ≤ ba ∧ ba < bi ∧ ba < bt ∧ ba < b1 ∧ b1 < b2 ∧ w.heap.size ≤ bn ∧
    Base.RowAt w' bi 44 #[.iface 41 (.pointer (some ⟨bt, 0, none⟩)), .int .i32 loc, .iface 55 (.pointer (some ⟨b2, 0, none⟩)), .int .i32 loc, .iface 41 (.pointer (some ⟨ba, 0, none⟩)), .int .i32 l2] ∧
    Base.RowAt w' bt 47 #[.iface 55 (.pointer (some ⟨b1, 0, none⟩)), .int .i32 loc, .iface 211 (.pointer (some ⟨bn, 0, none⟩)), .int .i32 loc, .int .u8 27, .bool false] ∧
    Base.RowAt w' b1 214 #[.int .u32 src, .int .u32 (i : Int), .bool false, .bool false, .bool false] ∧ Base.RowAt w' b2 214 #[.int .u32 src, .int .u32 (i : Int), .bool false, .bool false, .bool false] ∧ Base.RowAt w' bn 235 #[] ∧ Base.RowAt w' ba 47 #[.iface T2 (.pointer (some ⟨x2, 0, none⟩)), .int .i32 l2, .iface TR (.pointer (some ⟨xr, 0, none⟩)), .int .i32 lr, .int .u8 37, .bool false]
set_option maxRecDepth 100000 in
set_option maxHeartbeats 1000000 in
theorem nullFnYes (bp bl be eb pb x1 T2 x2 TR xr : Nat) (x loc l1 l2 lr src : Int) (sb n cap i c : Nat) (C : Array Value) (w : World) (hP : ParAt w pb sb n cap) (hi : i < n) (hn : n ≤ 4294967295) (hne : pb ≠ sb)
    (hC : Base.RowAt w sb 223 C) (hc : C[i * 10 + 4]? = some (.int .u32 (c : Int))) (hcm : c < 4294967294) (ri : Base.RowAt w x1 214 #[.int .u32 src, .int .u32 (i : Int), .bool false, .bool false, .bool false]) (hib : x1 ≠ sb) (n0 : bp ≠ sb) (n1 : bl ≠ sb) (n2 : be ≠ sb) (n3 : eb ≠ sb)
   (kp : w.cell? ⟨bp, 0, none⟩ = some (.pointer (some ⟨pb, 0, none⟩))) (hx : w.cell? ⟨pb, 23, none⟩ = some (.int .u64 x))
   (k0 : w.cell? ⟨bl, 0, none⟩ = some (.int .i32 loc)) (k2 : w.cell? ⟨be, 0, none⟩ = some (.pointer (some ⟨eb, 0, none⟩)))
   (k3 : w.cell? ⟨eb, 2, none⟩ = some (.iface TR (.pointer (some ⟨xr, 0, none⟩)))) (k4 : w.cell? ⟨eb, 3, none⟩ = some (.int .i32 lr)) (hx1 : (bits BinOp.and IntKind.u64 x 4398046511104 != 0) = true) :
    Calls Tryd.prog 49 #[.agg #[.iface 55 (.pointer (some ⟨x1, 0, none⟩)), .int .i32 l1], .agg #[.iface T2 (.pointer (some ⟨x2, 0, none⟩)), .int .i32 l2], .pointer (some ⟨bp, 0, none⟩), .pointer (some ⟨bl, 0, none⟩), .pointer (some ⟨be, 0, none⟩)] w (NullIf sb i c T2 x2 TR xr loc l2 lr src C w) := by
  have l0 := Base.block_of_cell k0
  have lp := Base.block_of_cell kp
  have lx := Base.block_of_cell hx
  have l2' := Base.block_of_cell k2
  have l3 := Base.block_of_cell k3
  have lsb := hC.lt
  have lpb := hP.lt
  have lx1 := ri.lt
  have Hc := Lib.hid hc
  clear hc
  go_enter Tryd.func49, Tryd.ntmps49
  go_wp2_with (go_at_call 43; go_in)
  generalize hW : World.alloc _ _ = W
  have hz : w.heap.size + 3 ≤ W.heap.size := by rw [← hW]; simp <;> omega
  have hbW : Below w.heap.size w W := by rw [← hW]; go_grown
  have r0 : Base.RowAt W (w.heap.size) 34 #[.iface 55 (.pointer (some ⟨x1, 0, none⟩)), .int .i32 l1] := by
    rw [← hW]
    repeat (first | (refine Base.RowAt.new' _ _ _ _ ?_; simp; done) | refine Base.RowAt.drew ?_ | refine Base.RowAt.alloc ?_ _)
  have r1 : Base.RowAt W (w.heap.size + 1) 34 #[.iface T2 (.pointer (some ⟨x2, 0, none⟩)), .int .i32 l2] := by
    rw [← hW]
    repeat (first | (refine Base.RowAt.new' _ _ _ _ ?_; simp; done) | refine Base.RowAt.drew ?_ | refine Base.RowAt.alloc ?_ _)
  have r2 : Base.RowAt W (w.heap.size + 1 + 1) 34 #[.nilIface, .int .i32 0] := by
    rw [← hW]
    repeat (first | (refine Base.RowAt.new' _ _ _ _ ?_; simp; done) | refine Base.RowAt.drew ?_ | refine Base.RowAt.alloc ?_ _)
  clear hW
  obtain ⟨B, hB⟩ : ∃ B, B = w.heap.size := ⟨_, rfl⟩
  obtain ⟨N, hNe⟩ : ∃ N, N = W.heap.size := ⟨_, rfl⟩
  have hNW : N ≤ W.heap.size := Nat.le_of_eq hNe
  have hBN : B + 3 ≤ N := by omega
  have HNe := Lib.hid hNe
  rw [← hB] at r0 r1 r2 ⊢
  have HB := Lib.hid hB
  clear hB hNe
  have kp := Base.cell_below hbW lp kp
  have k0 := Base.cell_below hbW l0 k0
  have k2 := Base.cell_below hbW l2' k2
  have k3 := Base.cell_below hbW l3 k3
  have k4 := Base.cell_below hbW l3 k4
  have hBl : bl < B := by have := HB.out; omega
  have hBp : bp < B := by have := HB.out; omega
  have hBe : be < B := by have := HB.out; omega
  have hEb : eb < B := by have := HB.out; omega
  have hP := hP.below hbW lpb
  have hC := hC.below hbW lsb
  have ri := ri.below hbW lx1
  have hsB : sb < B := by have := HB.out; omega
  have hpB : pb < B := by have := HB.out; omega
  have hx1B : x1 < B := by have := HB.out; omega
  refine Rega.wp_region_atoms (e := rNyE B N bp bl be eb pb x1 T2 x2 TR xr sb i c x loc l1 l2 lr src C) (F := rNyF B N bp bl be eb pb x1 T2 x2 TR xr sb i c x loc l1 l2 lr src C) (anc := rNyAnc) (G := rNyG B N bp bl be eb pb x1 T2 x2 TR xr sb i c x loc l1 l2 lr src C W) (Step := rNyStep B N bp bl be eb pb x1 T2 x2 TR xr sb i c x loc l1 l2 lr src C) (by kernel_rfl) (by kernel_rfl) (by kernel_rfl) (by kernel_rfl) (rNy_he B N bp bl be eb pb x1 T2 x2 TR xr sb i c x loc l1 l2 lr src C) (rNy_hF B N bp bl be eb pb x1 T2 x2 TR xr sb i c x loc l1 l2 lr src C) (rNy_hFs B N bp bl be eb pb x1 T2 x2 TR xr sb i c x loc l1 l2 lr src C hBN hsB) (rNy_hGs B N bp bl be eb pb x1 T2 x2 TR xr sb i c x loc l1 l2 lr src C hBN hsB W) ⟨(Base.KeptBut.refl _ _).drew, fun _ => hC.drew, fun _ => r2.drew⟩ (Rega.RunsAll.all ?_) ?_
  · refine ⟨?_, ?_, ?_, ?_, ?_, ?_, ?_, ?_, ?_, ?_, ?_, trivial⟩
    · intro L α a u K hL hcl hG hA hS h0 hK
      have q2 : a.tmps[2]? = some (.pointer (some ⟨bp, 0, none⟩)) := (h0 2 (by kernel_rfl)).trans rfl
      have s2 := Rega.eval_of q2
      have c0 : u.cell? ⟨bp, 0, none⟩ = some (.pointer (some ⟨pb, 0, none⟩)) := hG.1.cell_some kp (by simp <;> omega)
      go_simp
      exact hK _ α _ (fun _ _ => rfl) rfl trivial ⟨by decide, .refl _ _⟩
    · intro L α a u K hL hcl hG hA hS h0 hK
      have q3 : a.tmps[3]? = some (.pointer (some ⟨bl, 0, none⟩)) := (h0 3 (by kernel_rfl)).trans rfl
      have s3 := Rega.eval_of q3
      have c0 : u.cell? ⟨bl, 0, none⟩ = some (.int .i32 loc) := hG.1.cell_some k0 (by simp <;> omega)
      go_simp
      exact hK _ α _ (fun _ _ => rfl) rfl trivial ⟨by decide, .refl _ _⟩
    · intro L α a u K hL hcl hG hA hS h0 hK
      have q5 : a.tmps[5]? = some (.pointer (some ⟨B, 0, none⟩)) := (h0 5 (by kernel_rfl)).trans rfl
      have s5 := Rega.eval_of q5
      have c0 : u.cell? ⟨B, 0, none⟩ = some (.iface 55 (.pointer (some ⟨x1, 0, none⟩))) := hG.1.cell_some (r0.cell rfl) (by simp <;> omega)
      have c1 : u.cell? ⟨B, 1, none⟩ = some (.int .i32 l1) := hG.1.cell_some (r0.cell rfl) (by simp <;> omega)
      go_simp
      exact hK _ α _ (fun _ _ => rfl) rfl trivial ⟨by decide, .refl _ _⟩
    · intro L α a u K hL hcl hG hA hS h0 hK
      have q6 : a.tmps[6]? = some (.pointer (some ⟨B + 1, 0, none⟩)) := (h0 6 (by kernel_rfl)).trans rfl
      have s6 := Rega.eval_of q6
      have c0 : u.cell? ⟨B + 1, 0, none⟩ = some (.iface T2 (.pointer (some ⟨x2, 0, none⟩))) := hG.1.cell_some (r1.cell rfl) (by simp <;> omega)
      have c1 : u.cell? ⟨B + 1, 1, none⟩ = some (.int .i32 l2) := hG.1.cell_some (r1.cell rfl) (by simp <;> omega)
      go_simp
      exact hK _ α _ (fun _ _ => rfl) rfl trivial ⟨by decide, .refl _ _⟩
    · intro L α a u K hL hcl hG hA hS h0 hK
      have q4 : a.tmps[4]? = some (.pointer (some ⟨be, 0, none⟩)) := (h0 4 (by kernel_rfl)).trans rfl
      have s4 := Rega.eval_of q4
      have c0 : u.cell? ⟨be, 0, none⟩ = some (.pointer (some ⟨eb, 0, none⟩)) := hG.1.cell_some k2 (by simp <;> omega)
      go_simp
      exact hK _ α _ (fun _ _ => rfl) rfl trivial ⟨by decide, .refl _ _⟩
    · intro L α a u K hL hcl hG hA hS h0 hK
      have q19 : a.tmps[19]? = some (.pointer (some ⟨eb, 0, none⟩)) := hS 4 19 (by decide) rfl (by show 19 < 37; decide)
      have s19 := Rega.eval_of q19
      go_simp
      exact hK _ α _ (fun _ _ => rfl) rfl trivial ⟨by decide, .refl _ _⟩
    · intro L α a u K hL hcl hG hA hS h0 hK
      have q20 : a.tmps[20]? = some (.pointer (some ⟨eb, 0, none⟩)) := hS 5 20 (by decide) rfl (by show 20 < 37; decide)
      have s20 := Rega.eval_of q20
      go_simp
      exact hK _ α _ (fun _ _ => rfl) rfl trivial ⟨by decide, .refl _ _⟩
    · intro L α a u K hL hcl hG hA hS h0 hK
      have q21 : a.tmps[21]? = some (.pointer (some ⟨eb, 2, none⟩)) := hS 6 21 (by decide) rfl (by show 21 < 37; decide)
      have s21 := Rega.eval_of q21
      have c0 : u.cell? ⟨eb, 2, none⟩ = some (.iface TR (.pointer (some ⟨xr, 0, none⟩))) := hG.1.cell_some k3 (by simp <;> omega)
      have c1 : u.cell? ⟨eb, 3, none⟩ = some (.int .i32 lr) := hG.1.cell_some k4 (by simp <;> omega)
      go_simp
      exact hK _ α _ (fun _ _ => rfl) rfl trivial ⟨by decide, .refl _ _⟩
    · intro L α a u K hL hcl hG hA hS h0 hK
      have q18 : a.tmps[18]? = some (.agg #[.iface T2 (.pointer (some ⟨x2, 0, none⟩)), .int .i32 l2]) := hS 3 18 (by decide) rfl (by show 18 < 37; decide)
      have s18 := Rega.eval_of q18
      have q22 : a.tmps[22]? = some (.agg #[.iface TR (.pointer (some ⟨xr, 0, none⟩)), .int .i32 lr]) := hS 7 22 (by decide) rfl (by show 22 < 37; decide)
      have s22 := Rega.eval_of q22
      go_simp
      refine Calls.mono (assign T2 x2 TR xr l2 lr _) ?_
      rintro e u1 ⟨b, rfl, hlo, hb, hr⟩
      exact hK _ (fun j => if j = 8 then b else α j) _ (fun j hj => if_neg (by omega)) rfl ⟨Nat.le_trans (Nat.le_trans hNW hG.1.size) hlo, hr⟩ ⟨by decide, Base.KeptBut.of_below hb⟩
    · intro L α a u K hL hcl hG hA hS h0 hK
      have q15 : a.tmps[15]? = some (.pointer (some ⟨pb, 0, none⟩)) := hS 0 15 (by decide) rfl (by show 15 < 37; decide)
      have s15 := Rega.eval_of q15
      have q16 : a.tmps[16]? = some (.agg #[.int .i32 loc]) := hS 1 16 (by decide) rfl (by show 16 < 37; decide)
      have s16 := Rega.eval_of q16
      have q17 : a.tmps[17]? = some (.agg #[.iface 55 (.pointer (some ⟨x1, 0, none⟩)), .int .i32 l1]) := hS 2 17 (by decide) rfl (by show 17 < 37; decide)
      have s17 := Rega.eval_of q17
      have q23 : a.tmps[23]? = some (.agg #[.iface 41 (.pointer (some ⟨α 8, 0, none⟩)), .int .i32 l2]) := hS 8 23 (by decide) rfl (by show 23 < 37; decide)
      have s23 := Rega.eval_of q23
      go_simp
      have hrs := (hG.2.1 hL)
      have l8 : α 8 < u.heap.size := (hA 8 (by decide)).2.2.lt
      refine Calls.mono (lowIdent pb x1 sb n cap i c loc l1 l2 src 41 (α 8) C _ (hP.kept hG.1 (by simp <;> omega)) hi hn hne hrs Hc.out hcm (ri.kept hG.1 (by simp <;> omega)) hib) ?_
      rintro e u1 ⟨bi, bt, b1, b2, bn, rfl, hk2, hs2, hbi, hbt, hbb, h12, hbn, ra, rb, rc, rd, re⟩
      have hN := Nat.le_trans hNW hG.1.size
      exact hK _ (fun j => if j = 9 then bi else if j = 1000 + 9 then bt else if j = 2000 + 9 then b1 else if j = 3000 + 9 then b2 else if j = 4000 + 9 then bn else α j) _ (fun j hj => by rw [if_neg (by omega), if_neg (by omega), if_neg (by omega), if_neg (by omega), if_neg (by omega)]) rfl ⟨Nat.le_trans hN hbi, Nat.le_trans hN hbt, Nat.le_trans hN hbb, h12, Nat.le_trans hN hbn, ra, rb, rc, rd, re, Nat.lt_of_lt_of_le l8 hbi, Nat.lt_of_lt_of_le l8 hbt, Nat.lt_of_lt_of_le l8 hbb, hs2⟩ ⟨by decide, hk2⟩
    · intro L α a u K hL hcl hG hA hS h0 hK
      have q7 : a.tmps[7]? = some (.pointer (some ⟨B + 1 + 1, 0, none⟩)) := (h0 7 (by kernel_rfl)).trans rfl
      have s7 := Rega.eval_of q7
      have q24 : a.tmps[24]? = some (.agg #[.iface 39 (.pointer (some ⟨α 9, 0, none⟩)), .int .i32 loc]) := hS 9 24 (by decide) rfl (by show 24 < 37; decide)
      have s24 := Rega.eval_of q24
      have hr := (hG.2.2 hL)
      have x0 : u.cell? ⟨B + 1 + 1, 0, none⟩ = some (.nilIface) := hr.cell rfl
      have y0 : u.frozen? ⟨B + 1 + 1, 0, none⟩ = false := hr.free 0
      have x1 : u.cell? ⟨B + 1 + 1, 1, none⟩ = some (.int .i32 0) := hr.cell rfl
      have y1 : u.frozen? ⟨B + 1 + 1, 1, none⟩ = false := hr.free 1
      have HR := Lib.hid hr
      clear hr
      go_simp
      exact hK _ α _ (fun _ _ => rfl) rfl ((HR.out.set 0 _).set 1 _) ⟨by decide, ((Base.KeptBut.refl _ _).setCell (Or.inl (by simp [rNyMods])) _).setCell (Or.inl (by simp [rNyMods])) _⟩
  · intro α u hG hF
    have f8_0 : N ≤ α 8 := (hF 8 (by decide)).1
    have f8_1 : Base.RowAt u (α 8) 47 #[.iface T2 (.pointer (some ⟨x2, 0, none⟩)), .int .i32 l2, .iface TR (.pointer (some ⟨xr, 0, none⟩)), .int .i32 lr, .int .u8 37, .bool false] := (hF 8 (by decide)).2
    have f9_0 : N ≤ α 9 := (hF 9 (by decide)).1
    have f9_1 : N ≤ α 1009 := (hF 9 (by decide)).2.1
    have f9_2 : N ≤ α 2009 := (hF 9 (by decide)).2.2.1
    have f9_3 : α 2009 < α 3009 := (hF 9 (by decide)).2.2.2.1
    have f9_4 : N ≤ α 4009 := (hF 9 (by decide)).2.2.2.2.1
    have f9_5 : Base.RowAt u (α 9) 44 #[.iface 41 (.pointer (some ⟨α 1009, 0, none⟩)), .int .i32 loc, .iface 55 (.pointer (some ⟨α 3009, 0, none⟩)), .int .i32 loc, .iface 41 (.pointer (some ⟨α 8, 0, none⟩)), .int .i32 l2] := (hF 9 (by decide)).2.2.2.2.2.1
    have f9_6 : Base.RowAt u (α 1009) 47 #[.iface 55 (.pointer (some ⟨α 2009, 0, none⟩)), .int .i32 loc, .iface 211 (.pointer (some ⟨α 4009, 0, none⟩)), .int .i32 loc, .int .u8 27, .bool false] := (hF 9 (by decide)).2.2.2.2.2.2.1
    have f9_7 : Base.RowAt u (α 2009) 214 #[.int .u32 src, .int .u32 (i : Int), .bool false, .bool false, .bool false] := (hF 9 (by decide)).2.2.2.2.2.2.2.1
    have f9_8 : Base.RowAt u (α 3009) 214 #[.int .u32 src, .int .u32 (i : Int), .bool false, .bool false, .bool false] := (hF 9 (by decide)).2.2.2.2.2.2.2.2.1
    have f9_9 : Base.RowAt u (α 4009) 235 #[] := (hF 9 (by decide)).2.2.2.2.2.2.2.2.2.1
    have f9_10 : α 8 < α 9 := (hF 9 (by decide)).2.2.2.2.2.2.2.2.2.2.1
    have f9_11 : α 8 < α 1009 := (hF 9 (by decide)).2.2.2.2.2.2.2.2.2.2.2.1
    have f9_12 : α 8 < α 2009 := (hF 9 (by decide)).2.2.2.2.2.2.2.2.2.2.2.2.1
    have f9_13 : Base.RowAt u sb 223 ((C.setIfInBounds (i * 10 + 4) (.int .u32 ((c + 1 : Nat) : Int))).setIfInBounds (i * 10 + 4) (.int .u32 ((c + 1 + 1 : Nat) : Int))) := (hF 9 (by decide)).2.2.2.2.2.2.2.2.2.2.2.2.2
    have f10_0 : Base.RowAt u (B + 1 + 1) 34 #[.iface 39 (.pointer (some ⟨α 9, 0, none⟩)), .int .i32 loc] := (hF 10 (by decide))
    clear hF
    generalize hfr : Rega.frameAt _ _ _ _ _ = fr
    have hdf : fr = ⟨#[.agg #[.iface 55 (.pointer (some ⟨x1, 0, none⟩)), .int .i32 l1], .agg #[.iface T2 (.pointer (some ⟨x2, 0, none⟩)), .int .i32 l2], .pointer (some ⟨bp, 0, none⟩), .pointer (some ⟨bl, 0, none⟩), .pointer (some ⟨be, 0, none⟩), .pointer (some ⟨B, 0, none⟩), .pointer (some ⟨B + 1, 0, none⟩), .pointer (some ⟨B + 1 + 1, 0, none⟩), .pointer (some ⟨pb, 0, none⟩), .pointer (some ⟨pb, 0, none⟩), .pointer (some ⟨pb, 0, none⟩), .pointer (some ⟨pb, 18, none⟩), .pointer (some ⟨pb, 23, none⟩), .int .u64 x, .bool true, .pointer (some ⟨pb, 0, none⟩), .agg #[.int .i32 loc], .agg #[.iface 55 (.pointer (some ⟨x1, 0, none⟩)), .int .i32 l1], .agg #[.iface T2 (.pointer (some ⟨x2, 0, none⟩)), .int .i32 l2], .pointer (some ⟨eb, 0, none⟩), .pointer (some ⟨eb, 0, none⟩), .pointer (some ⟨eb, 2, none⟩), .agg #[.iface TR (.pointer (some ⟨xr, 0, none⟩)), .int .i32 lr], .agg #[.iface 41 (.pointer (some ⟨α 8, 0, none⟩)), .int .i32 l2], .agg #[.iface 39 (.pointer (some ⟨α 9, 0, none⟩)), .int .i32 loc], undef, undef, undef, undef, undef, undef, undef, undef, undef, undef, undef, undef], []⟩ := by rw [← hfr]; kernel_rfl
    clear hfr
    subst hdf
    have z0 : u.cell? ⟨B + 1 + 1, 0, none⟩ = some (.iface 39 (.pointer (some ⟨α 9, 0, none⟩))) := f10_0.cell rfl
    have z1 : u.cell? ⟨B + 1 + 1, 1, none⟩ = some (.int .i32 loc) := f10_0.cell rfl
    go_wp2
    have hB := HB.out
    have hkb := hG.1
    have hk : Base.KeptBut [sb] w u := by
      refine ⟨hkb.os.trans hbW.os, hkb.tape.trans hbW.tape, hkb.output.trans hbW.output, Nat.le_trans hbW.size hkb.size, fun k hk hn => ?_⟩
      exact (hkb.block k (by omega) (by simp at hn ⊢; omega)).trans (hbW.block k hk)
    refine bodyPost_ret (v := .agg #[.iface 39 (.pointer (some ⟨α 9, 0, none⟩)), .int .i32 loc]) ?_ rfl ?_
    · simp [results, Tryd.results49, go_sem, z0, z1]
    · exact ⟨α 9, α 1009, α 2009, α 3009, α 4009, α 8, rfl, hk, f9_13, by omega, f9_10, f9_11, f9_12, f9_3, by omega, f9_5, f9_6, f9_7, f9_8, f9_9, f8_1⟩
end Go.Proofs.YtlgefnjkoklboaaDoor.Use
