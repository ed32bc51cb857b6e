/- The lowering of a logical assignment to an identifier, walked. No condition. -/
import Derived.Test.YtlgefnjkoklboaaDoorLogic
import Derived.Test.YtlgefnjkoklboaaDoorDeepCells
namespace Go.Proofs.YtlgefnjkoklboaaDoor.Use
open Go.ChangeShapes Go.WideShapes Go.ChangeAt Go.RowKit Go.Sort
set_option linter.unusedVariables false
def rIlE (B N pb sb i ib bl bo be eb TR xr : Nat) (src ll loc op lr : Int) : Nat → Rega.Atoms → Value
  | 0, α => .func (Fn.func 45) #[] #[.pointer (some ⟨bl, 0, none⟩), .pointer (some ⟨bo, 0, none⟩), .pointer (some ⟨be, 0, none⟩)]
  | 1, α => .pointer (some ⟨B, 1, none⟩)
  | 2, α => .agg #[.int .i32 ll]
  | 3, α => .pointer (some ⟨ib, 0, none⟩)
  | 4, α => .pointer (some ⟨ib, 0, none⟩)
  | 5, α => .pointer (some ⟨ib, 0, none⟩)
  | 6, α => .agg #[.int .u32 src, .int .u32 (i : Int)]
  | 7, α => .agg #[.int .u32 src, .int .u32 (i : Int), .bool false, .bool false, .bool false]
  | 8, α => .pointer (some ⟨α 8, 0, none⟩)
  | 9, α => .iface 55 (.pointer (some ⟨α 8, 0, none⟩))
  | 10, α => .agg #[.iface 55 (.pointer (some ⟨α 8, 0, none⟩)), .int .i32 ll]
  | 11, α => .agg #[.iface 55 (.pointer (some ⟨ib, 0, none⟩)), .int .i32 ll]
  | 12, α => .agg #[.iface 41 (.pointer (some ⟨α 12, 0, none⟩)), .int .i32 loc]
  | 13, α => undef
  | _, _ => undef
def rIlF (B N pb sb i ib bl bo be eb TR xr : Nat) (src ll loc op lr : Int) : Nat → (Nat → Bool) → Rega.Atoms → World → Prop
  | 8, L, α, u => N ≤ α 8 ∧ Base.RowAt u (α 8) 214 #[.int .u32 src, .int .u32 (i : Int), .bool false, .bool false, .bool false]
  | 12, L, α, u => N ≤ α 1012 ∧ α 1012 < α 12 ∧ α 8 < α 1012 ∧ Base.RowAt u (α 12) 47 #[.iface 55 (.pointer (some ⟨α 8, 0, none⟩)), .int .i32 ll, .iface 41 (.pointer (some ⟨α 1012, 0, none⟩)), .int .i32 ll, .int .u8 op, .bool false] ∧ Base.RowAt u (α 1012) 47 #[.iface 55 (.pointer (some ⟨ib, 0, none⟩)), .int .i32 ll, .iface TR (.pointer (some ⟨xr, 0, none⟩)), .int .i32 lr, .int .u8 37, .bool false]
  | 13, L, α, u => Base.RowAt u (B + 1) 34 #[.iface 41 (.pointer (some ⟨α 12, 0, none⟩)), .int .i32 loc]
  | _, _, _, _ => True
def rIlAnc : Nat → List Nat
  | 2 => [1]
  | 4 => [3]
  | 5 => [3, 4]
  | 6 => [3, 4, 5]
  | 7 => [3, 4, 5, 6]
  | 8 => [3, 4, 5, 6, 7]
  | 9 => [3, 4, 5, 6, 7, 8]
  | 10 => [1, 2, 3, 4, 5, 6, 7, 8, 9]
  | 12 => [0, 1, 2, 3, 4, 5, 6, 7, 8, 9, 10, 11]
  | 13 => [0, 1, 2, 3, 4, 5, 6, 7, 8, 9, 10, 11, 12]
  | _ => []
def rIlMods (B N pb sb i ib bl bo be eb TR xr : Nat) (src ll loc op lr : Int) : Nat → List Nat
  | 13 => [B + 1]
  | _ => []
def rIlStep (B N pb sb i ib bl bo be eb TR xr : Nat) (src ll loc op lr : Int) (ii : Nat) (_ : Rega.Atoms) (w w' : World) : Prop := ii < 14 ∧ Base.KeptBut (rIlMods B N pb sb i ib bl bo be eb TR xr src ll loc op lr ii) w w'
def rIlG (B N pb sb i ib bl bo be eb TR xr : Nat) (src ll loc op lr : Int) (W : World) (L : Nat → Bool) (u : World) : Prop := Base.KeptBut [B + 1] W u ∧ (L 13 = false → Base.RowAt u (B + 1) 34 #[.nilIface, .int .i32 0])
theorem rIl_he (B N pb sb i ib bl bo be eb TR xr : Nat) (src ll loc op lr : Int) : ∀ kk α α', (∀ j, (j % 1000 = kk ∨ j % 1000 ∈ rIlAnc kk) → α j = α' j) → rIlE B N pb sb i ib bl bo be eb TR xr src ll loc op lr kk α = rIlE B N pb sb i ib bl bo be eb TR xr src ll loc op lr kk α' := by
  intro kk α α' h
  match kk with
  | 0 => rfl
  | 1 => rfl
  | 2 => rfl
  | 3 => rfl
  | 4 => rfl
  | 5 => rfl
  | 6 => rfl
  | 7 => rfl
  | 8 => simp only [rIlE, h 8 (Or.inl rfl)]
  | 9 => simp only [rIlE, h 8 (Or.inr (by decide))]
  | 10 => simp only [rIlE, h 8 (Or.inr (by decide))]
  | 11 => rfl
  | 12 => simp only [rIlE, h 12 (Or.inl rfl)]
  | 13 => rfl
  | n + 14 => rfl
theorem rIl_hF (B N pb sb i ib bl bo be eb TR xr : Nat) (src ll loc op lr : Int) : ∀ kk L α α' u, (∀ j, (j % 1000 = kk ∨ j % 1000 ∈ rIlAnc kk) → α j = α' j) → rIlF B N pb sb i ib bl bo be eb TR xr src ll loc op lr kk L α u → rIlF B N pb sb i ib bl bo be eb TR xr src ll loc op lr kk L α' u := by
  intro kk L α α' u h hf
  match kk with
  | 0 => trivial
  | 1 => trivial
  | 2 => trivial
  | 3 => trivial
  | 4 => trivial
  | 5 => trivial
  | 6 => trivial
  | 7 => trivial
  | 8 => simpa only [rIlF, h 8 (Or.inl rfl)] using hf
  | 9 => trivial
  | 10 => trivial
  | 11 => trivial
  | 12 => simpa only [rIlF, h 8 (Or.inr (by decide)), h 12 (Or.inl rfl), h 1012 (Or.inl rfl)] using hf
  | 13 => simpa only [rIlF, h 12 (Or.inr (by decide))] using hf
  | n + 14 => trivial
theorem rIl_mods (B N pb sb i ib bl bo be eb TR xr : Nat) (src ll loc op lr : Int) (hBN : B + 2 ≤ N) : ∀ ii x, x ∈ rIlMods B N pb sb i ib bl bo be eb TR xr src ll loc op lr ii → x < N := by
  intro ii x hx
  unfold rIlMods at hx
  split at hx <;> simp at hx <;> omega
theorem rIl_hFs (B N pb sb i ib bl bo be eb TR xr : Nat) (src ll loc op lr : Int) (hBN : B + 2 ≤ N) : ∀ kk ii L α u u', ii ≠ kk → ii ∉ rIlAnc kk → L kk = true → L ii = false → (∀ j, L j = true → ∀ i, i ∈ rIlAnc j → L i = true) → (∀ j, j ∈ rIlAnc ii → L j = true) → rIlStep B N pb sb i ib bl bo be eb TR xr src ll loc op lr ii α u u' → rIlF B N pb sb i ib bl bo be eb TR xr src ll loc op lr kk L α u → rIlF B N pb sb i ib bl bo be eb TR xr src ll loc op lr kk (Rega.ran L ii) α u' := by
  intro kk ii L α u u' hne hni hLk hLi hcl hai hst hf
  have hm := rIl_mods B N pb sb i ib bl bo be eb TR xr src ll loc op lr hBN ii
  match kk with
  | 0 => trivial
  | 1 => trivial
  | 2 => trivial
  | 3 => trivial
  | 4 => trivial
  | 5 => trivial
  | 6 => trivial
  | 7 => trivial
  | 8 =>
    refine ⟨?_, ?_⟩
    · exact hf.1
    · exact hf.2.kept hst.2 (fun h => by have h1 := hm _ h; have h2 := hf.1; omega)
  | 9 => trivial
  | 10 => trivial
  | 11 => trivial
  | 12 =>
    refine ⟨?_, ?_, ?_, ?_, ?_⟩
    · exact hf.1
    · exact hf.2.1
    · exact hf.2.2.1
    · exact hf.2.2.2.1.kept hst.2 (fun h => by have h1 := hm _ h; have h2 := hf.1; have h3 := hf.2.1; omega)
    · exact hf.2.2.2.2.kept hst.2 (fun h => by have h1 := hm _ h; have h2 := hf.1; omega)
  | 13 =>
    refine hf.kept hst.2 ?_
    intro hx
    unfold rIlMods at hx
    split at hx <;> first | exact absurd rfl hne | exact hni (by decide) | (simp at hx; done) | (simp at hx; omega)
  | n + 14 => trivial
theorem rIl_hGs (B N pb sb i ib bl bo be eb TR xr : Nat) (src ll loc op lr : Int) (hBN : B + 2 ≤ N) (W : World) : ∀ ii L α u u', L ii = false → (∀ j, L j = true → ∀ i, i ∈ rIlAnc j → L i = true) → (∀ j, j ∈ rIlAnc ii → L j = true) → rIlStep B N pb sb i ib bl bo be eb TR xr src ll loc op lr ii α u u' → rIlG B N pb sb i ib bl bo be eb TR xr src ll loc op lr W L u → rIlG B N pb sb i ib bl bo be eb TR xr src ll loc op lr W (Rega.ran L ii) u' := by
  intro ii L α u u' hLi hcl hai hst hG
  obtain ⟨hk, g0⟩ := hG
  refine ⟨hk.trans (hst.2.mono (fun x hx => by unfold rIlMods at hx; split at hx <;> simp at hx <;> simp [hx])), ?_⟩
  · intro hg
    have hik : ii ≠ 13 := by rintro rfl; simp [Rega.ran] at hg
    have hLn : L 13 = false := by simpa [Rega.ran, Ne.symm hik] using hg
    refine (g0 hLn).kept hst.2 ?_
    intro hx
    unfold rIlMods at hx
    split at hx <;> first | exact absurd rfl hik | exact absurd (hai 13 (by decide)) (by rw [hLn]; decide) | (simp at hx; done) | (simp at hx; omega)

/-- 'x op (x = r)' has been made; x is counted once more. -/
def LowIdLogical (sb i c ib TR xr : Nat) (src ll loc op lr : Int) (C : Array Value) (w : World) (e : Ending) (w' : World) : Prop :=
  ∃ b a x, e = .returned (.agg #[.iface 41 (.pointer (some ⟨b, 0, none⟩)), .int .i32 loc]) ∧ Bump sb i c C w w' ∧ w.heap.size ≤ x ∧ x < a ∧ a < b ∧
    Base.RowAt w' b 47 #[.iface 55 (.pointer (some ⟨x, 0, none⟩)), .int .i32 ll, .iface 41 (.pointer (some ⟨a, 0, none⟩)), .int .i32 ll, .int .u8 op, .bool false] ∧
    Base.RowAt w' a 47 #[.iface 55 (.pointer (some ⟨ib, 0, none⟩)), .int .i32 ll, .iface TR (.pointer (some ⟨xr, 0, none⟩)), .int .i32 lr, .int .u8 37, .bool false] ∧
    Base.RowAt w' x 214 #[.int .u32 src, .int .u32 (i : Int), .bool false, .bool false, .bool false]
set_option maxRecDepth 100000 in
set_option maxHeartbeats 1000000 in
theorem lowIdLogical (pb sb n cap i c ib bl bo be eb TR xr : Nat) (src ll loc op lr : Int) (C : Array Value) (w : World) (hP : ParAt w pb sb n cap) (hi : i < n) (hn : n ≤ 4294967295) (hne : pb ≠ sb)
    (hC : Base.RowAt w sb 223 C) (hc : C[i * 10 + 4]? = some (.int .u32 (c : Int))) (hcm : c < 4294967295)
    (ri : Base.RowAt w ib 214 #[.int .u32 src, .int .u32 (i : Int), .bool false, .bool false, .bool false]) (hib : ib ≠ sb)
    (k0 : Base.RowAt w bl 32 #[.int .i32 loc]) (k1 : Base.RowAt w bo 45 #[.int .u8 op]) (k2 : Base.RowAt w be 41 #[.pointer (some ⟨eb, 0, none⟩)]) (n0 : bl ≠ sb) (n1 : bo ≠ sb) (n2 : be ≠ sb) (n3 : eb ≠ sb)
    (k3 : w.cell? ⟨eb, 2, none⟩ = some (.iface TR (.pointer (some ⟨xr, 0, none⟩)))) (k4 : w.cell? ⟨eb, 3, none⟩ = some (.int .i32 lr)) :
    Calls Tryd.prog 44 #[.pointer (some ⟨pb, 0, none⟩), .agg #[.iface 55 (.pointer (some ⟨ib, 0, none⟩)), .int .i32 ll], .func (Fn.func 45) #[] #[.pointer (some ⟨bl, 0, none⟩), .pointer (some ⟨bo, 0, none⟩), .pointer (some ⟨be, 0, none⟩)]] w (LowIdLogical sb i c ib TR xr src ll loc op lr C w) := by
  have l0 := ri.lt
  have l1 := k0.lt
  have l2 := k1.lt
  have l3 := k2.lt
  have l4 := Base.block_of_cell k3
  have l5 := hC.lt
  have l6 := hP.lt
  have j0 := ri.cell (i := 0) rfl
  have j1 := ri.cell (i := 1) rfl
  have Hc := Lib.hid hc
  clear hc
  go_enter Tryd.func44, Tryd.ntmps44
  go_wp2_with fail
  refine Calls.mono (recordUsage pb sb n cap i c src C _ (hP.kept (((Base.KeptBut.refl [] _).alloc _).alloc _) (by simp)) hi hn hne ((hC.alloc _).alloc _) Hc.out hcm) ?_
  rintro e w1 ⟨rfl, hb1, hb2⟩
  have l7 := hb1.size
  simp at l7
  have r0 := ((Base.RowAt.new' w _ _ _ rfl).alloc _).kept hb1 (by simp; omega)
  have r1 := (Base.RowAt.new' (w.alloc _) #[.nilIface, .int .i32 0] 34 (w.heap.size + 1) (by simp)).kept hb1 (by simp; omega)
  have hb0 : Base.KeptBut [sb] w w1 := ((Base.KeptBut.of_below ((Below.refl _ _).alloc (Nat.le_refl _) _)).alloc _).trans hb1
  go_wp2
  have ri := ri.kept hb0 (by simp; omega)
  have k0 := k0.kept hb0 (by simp; omega)
  have k1 := k1.kept hb0 (by simp; omega)
  have k2 := k2.kept hb0 (by simp; omega)
  have k3 := hb0.cell_some k3 (by simp; omega)
  have k4 := hb0.cell_some k4 (by simp; omega)
  clear j0 j1 hP hC hb1
  obtain ⟨B, hB⟩ : ∃ B, B = w.heap.size := ⟨_, rfl⟩
  obtain ⟨N, hNe⟩ : ∃ N, N = w1.heap.size := ⟨_, rfl⟩
  have hNW : N ≤ w1.heap.size := Nat.le_of_eq hNe
  have hBN : B + 2 ≤ N := by omega
  rw [← hB] at r0 r1 l0 l1 l2 l3 l4 l5 l6 ⊢
  have HB := Lib.hid hB
  have HNe := Lib.hid hNe
  clear hB hNe
  refine Rega.wp_region_atoms (e := rIlE B N pb sb i ib bl bo be eb TR xr src ll loc op lr) (F := rIlF B N pb sb i ib bl bo be eb TR xr src ll loc op lr) (anc := rIlAnc) (G := rIlG B N pb sb i ib bl bo be eb TR xr src ll loc op lr w1) (Step := rIlStep B N pb sb i ib bl bo be eb TR xr src ll loc op lr) (by kernel_rfl) (by kernel_rfl) (by kernel_rfl) (by kernel_rfl) (rIl_he B N pb sb i ib bl bo be eb TR xr src ll loc op lr) (rIl_hF B N pb sb i ib bl bo be eb TR xr src ll loc op lr) (rIl_hFs B N pb sb i ib bl bo be eb TR xr src ll loc op lr hBN) (rIl_hGs B N pb sb i ib bl bo be eb TR xr src ll loc op lr hBN w1) ⟨(Base.KeptBut.refl _ _).drew, fun _ => r1.drew⟩ (Rega.RunsAll.all ?_) ?_
  · refine ⟨?_, ?_, ?_, ?_, ?_, ?_, ?_, ?_, ?_, ?_, ?_, ?_, ?_, ?_, trivial⟩
    · intro L α a u K hL hcl hG hA hS h0 hK
      have q2 : a.tmps[2]? = some (.func (Fn.func 45) #[] #[.pointer (some ⟨bl, 0, none⟩), .pointer (some ⟨bo, 0, none⟩), .pointer (some ⟨be, 0, none⟩)]) := (h0 2 (by kernel_rfl)).trans rfl
      have s2 := Rega.eval_of q2
      go_simp
      exact hK _ α _ (fun _ _ => rfl) rfl trivial ⟨by decide, .refl _ _⟩
    · intro L α a u K hL hcl hG hA hS h0 hK
      have q4 : a.tmps[4]? = some (.pointer (some ⟨B, 0, none⟩)) := (h0 4 (by kernel_rfl)).trans rfl
      have s4 := Rega.eval_of q4
      go_simp
      exact hK _ α _ (fun _ _ => rfl) rfl trivial ⟨by decide, .refl _ _⟩
    · intro L α a u K hL hcl hG hA hS h0 hK
      have q139 : a.tmps[139]? = some (.pointer (some ⟨B, 1, none⟩)) := hS 1 139 (by decide) rfl (by show 139 < 152; decide)
      have s139 := Rega.eval_of q139
      have c0 : u.cell? ⟨B, 1, none⟩ = some (.int .i32 ll) := hG.1.cell_some (r0.cell rfl) (by simp <;> omega)
      go_simp
      exact hK _ α _ (fun _ _ => rfl) rfl trivial ⟨by decide, .refl _ _⟩
    · intro L α a u K hL hcl hG hA hS h0 hK
      have q15 : a.tmps[15]? = some (.pointer (some ⟨ib, 0, none⟩)) := (h0 15 (by kernel_rfl)).trans rfl
      have s15 := Rega.eval_of q15
      go_simp
      exact hK _ α _ (fun _ _ => rfl) rfl trivial ⟨by decide, .refl _ _⟩
    · intro L α a u K hL hcl hG hA hS h0 hK
      have q141 : a.tmps[141]? = some (.pointer (some ⟨ib, 0, none⟩)) := hS 3 141 (by decide) rfl (by show 141 < 152; decide)
      have s141 := Rega.eval_of q141
      go_simp
      exact hK _ α _ (fun _ _ => rfl) rfl trivial ⟨by decide, .refl _ _⟩
    · intro L α a u K hL hcl hG hA hS h0 hK
      have q142 : a.tmps[142]? = some (.pointer (some ⟨ib, 0, none⟩)) := hS 4 142 (by decide) rfl (by show 142 < 152; decide)
      have s142 := Rega.eval_of q142
      go_simp
      exact hK _ α _ (fun _ _ => rfl) rfl trivial ⟨by decide, .refl _ _⟩
    · intro L α a u K hL hcl hG hA hS h0 hK
      have q143 : a.tmps[143]? = some (.pointer (some ⟨ib, 0, none⟩)) := hS 5 143 (by decide) rfl (by show 143 < 152; decide)
      have s143 := Rega.eval_of q143
      have c0 : u.cell? ⟨ib, 0, none⟩ = some (.int .u32 src) := hG.1.cell_some (ri.cell rfl) (by simp <;> omega)
      have c1 : u.cell? ⟨ib, 1, none⟩ = some (.int .u32 (i : Int)) := hG.1.cell_some (ri.cell rfl) (by simp <;> omega)
      go_simp
      exact hK _ α _ (fun _ _ => rfl) rfl trivial ⟨by decide, .refl _ _⟩
    · intro L α a u K hL hcl hG hA hS h0 hK
      have q144 : a.tmps[144]? = some (.agg #[.int .u32 src, .int .u32 (i : Int)]) := hS 6 144 (by decide) rfl (by show 144 < 152; decide)
      have s144 := Rega.eval_of q144
      go_simp
      exact hK _ α _ (fun _ _ => rfl) rfl trivial ⟨by decide, .refl _ _⟩
    · intro L α a u K hL hcl hG hA hS h0 hK
      have q145 : a.tmps[145]? = some (.agg #[.int .u32 src, .int .u32 (i : Int), .bool false, .bool false, .bool false]) := hS 7 145 (by decide) rfl (by show 145 < 152; decide)
      have s145 := Rega.eval_of q145
      go_simp
      exact hK _ (fun j => if j = 8 then u.heap.size else α j) _ (fun j hj => if_neg (by omega)) rfl ⟨Nat.le_trans hNW hG.1.size, Base.RowAt.new u _ _⟩ ⟨by decide, (Base.KeptBut.refl _ _).alloc _⟩
    · intro L α a u K hL hcl hG hA hS h0 hK
      have q146 : a.tmps[146]? = some (.pointer (some ⟨α 8, 0, none⟩)) := hS 8 146 (by decide) rfl (by show 146 < 152; decide)
      have s146 := Rega.eval_of q146
      go_simp
      exact hK _ α _ (fun _ _ => rfl) rfl trivial ⟨by decide, .refl _ _⟩
    · intro L α a u K hL hcl hG hA hS h0 hK
      have q140 : a.tmps[140]? = some (.agg #[.int .i32 ll]) := hS 2 140 (by decide) rfl (by show 140 < 152; decide)
      have s140 := Rega.eval_of q140
      have q147 : a.tmps[147]? = some (.iface 55 (.pointer (some ⟨α 8, 0, none⟩))) := hS 9 147 (by decide) rfl (by show 147 < 152; decide)
      have s147 := Rega.eval_of q147
      go_simp
      exact hK _ α _ (fun _ _ => rfl) rfl trivial ⟨by decide, .refl _ _⟩
    · intro L α a u K hL hcl hG hA hS h0 hK
      have q4 : a.tmps[4]? = some (.pointer (some ⟨B, 0, none⟩)) := (h0 4 (by kernel_rfl)).trans rfl
      have s4 := Rega.eval_of q4
      have c0 : u.cell? ⟨B, 0, none⟩ = some (.iface 55 (.pointer (some ⟨ib, 0, none⟩))) := hG.1.cell_some (r0.cell rfl) (by simp <;> omega)
      have c1 : u.cell? ⟨B, 1, none⟩ = some (.int .i32 ll) := hG.1.cell_some (r0.cell rfl) (by simp <;> omega)
      go_simp
      exact hK _ α _ (fun _ _ => rfl) rfl trivial ⟨by decide, .refl _ _⟩
    · intro L α a u K hL hcl hG hA hS h0 hK
      have q138 : a.tmps[138]? = some (.func (Fn.func 45) #[] #[.pointer (some ⟨bl, 0, none⟩), .pointer (some ⟨bo, 0, none⟩), .pointer (some ⟨be, 0, none⟩)]) := hS 0 138 (by decide) rfl (by show 138 < 152; decide)
      have s138 := Rega.eval_of q138
      have q148 : a.tmps[148]? = some (.agg #[.iface 55 (.pointer (some ⟨α 8, 0, none⟩)), .int .i32 ll]) := hS 10 148 (by decide) rfl (by show 148 < 152; decide)
      have s148 := Rega.eval_of q148
      have q149 : a.tmps[149]? = some (.agg #[.iface 55 (.pointer (some ⟨ib, 0, none⟩)), .int .i32 ll]) := hS 11 149 (by decide) rfl (by show 149 < 152; decide)
      have s149 := Rega.eval_of q149
      go_simp
      have l8 : α 8 < u.heap.size := (hA 8 (by decide)).2.2.lt
      refine Calls.mono (logicalFn bl bo be eb 55 (α 8) 55 ib TR xr loc op ll ll lr _ (hG.1.cell_some (k0.cell rfl) (by simp <;> omega)) (hG.1.cell_some (k1.cell rfl) (by simp <;> omega)) (hG.1.cell_some (k2.cell rfl) (by simp <;> omega)) (hG.1.cell_some k3 (by simp <;> omega)) (hG.1.cell_some k4 (by simp <;> omega))) ?_
      rintro e u1 ⟨b, a1, rfl, hlo, hab, hb, hr1, hr2⟩
      exact hK _ (fun j => if j = 12 then b else if j = 1000 + 12 then a1 else α j) _ (fun j hj => by rw [if_neg (by omega), if_neg (by omega)]) rfl ⟨Nat.le_trans (Nat.le_trans hNW hG.1.size) hlo, hab, Nat.lt_of_lt_of_le l8 hlo, hr1, hr2⟩ ⟨by decide, Base.KeptBut.of_below hb⟩
    · intro L α a u K hL hcl hG hA hS h0 hK
      have q6 : a.tmps[6]? = some (.pointer (some ⟨B + 1, 0, none⟩)) := (h0 6 (by kernel_rfl)).trans rfl
      have s6 := Rega.eval_of q6
      have q150 : a.tmps[150]? = some (.agg #[.iface 41 (.pointer (some ⟨α 12, 0, none⟩)), .int .i32 loc]) := hS 12 150 (by decide) rfl (by show 150 < 152; decide)
      have s150 := Rega.eval_of q150
      have hr := (hG.2 hL)
      have x0 : u.cell? ⟨B + 1, 0, none⟩ = some (.nilIface) := hr.cell rfl
      have y0 : u.frozen? ⟨B + 1, 0, none⟩ = false := hr.free 0
      have x1 : u.cell? ⟨B + 1, 1, none⟩ = some (.int .i32 0) := hr.cell rfl
      have y1 : u.frozen? ⟨B + 1, 1, none⟩ = false := hr.free 1
      have HR := Lib.hid hr
      clear hr
      go_simp
      exact hK _ α _ (fun _ _ => rfl) rfl ((HR.out.set 0 _).set 1 _) ⟨by decide, ((Base.KeptBut.refl _ _).setCell (Or.inl (by simp [rIlMods])) _).setCell (Or.inl (by simp [rIlMods])) _⟩
  · intro α u hG hF
    have f8_0 : N ≤ α 8 := (hF 8 (by decide)).1
    have f8_1 : Base.RowAt u (α 8) 214 #[.int .u32 src, .int .u32 (i : Int), .bool false, .bool false, .bool false] := (hF 8 (by decide)).2
    have f12_0 : N ≤ α 1012 := (hF 12 (by decide)).1
    have f12_1 : α 1012 < α 12 := (hF 12 (by decide)).2.1
    have f12_2 : α 8 < α 1012 := (hF 12 (by decide)).2.2.1
    have f12_3 : Base.RowAt u (α 12) 47 #[.iface 55 (.pointer (some ⟨α 8, 0, none⟩)), .int .i32 ll, .iface 41 (.pointer (some ⟨α 1012, 0, none⟩)), .int .i32 ll, .int .u8 op, .bool false] := (hF 12 (by decide)).2.2.2.1
    have f12_4 : Base.RowAt u (α 1012) 47 #[.iface 55 (.pointer (some ⟨ib, 0, none⟩)), .int .i32 ll, .iface TR (.pointer (some ⟨xr, 0, none⟩)), .int .i32 lr, .int .u8 37, .bool false] := (hF 12 (by decide)).2.2.2.2
    have f13_0 : Base.RowAt u (B + 1) 34 #[.iface 41 (.pointer (some ⟨α 12, 0, none⟩)), .int .i32 loc] := (hF 13 (by decide))
    clear hF
    generalize hfr : Rega.frameAt _ _ _ _ _ = fr
    have hdf : fr = ⟨#[.pointer (some ⟨pb, 0, none⟩), .agg #[.iface 55 (.pointer (some ⟨ib, 0, none⟩)), .int .i32 ll], .func (Fn.func 45) #[] #[.pointer (some ⟨bl, 0, none⟩), .pointer (some ⟨bo, 0, none⟩), .pointer (some ⟨be, 0, none⟩)], undef, .pointer (some ⟨B, 0, none⟩), undef, .pointer (some ⟨B + 1, 0, none⟩), undef, undef, undef, undef, undef, undef, undef, undef, .pointer (some ⟨ib, 0, none⟩), .pointer (some ⟨B, 0, none⟩), .iface 55 (.pointer (some ⟨ib, 0, none⟩)), .tuple #[.pointer none, .bool false], .bool false, .pointer none, undef, undef, undef, undef, undef, undef, undef, undef, undef, undef, undef, undef, undef, undef, undef, undef, undef, undef, undef, undef, undef, undef, undef, undef, undef, undef, undef, undef, undef, undef, undef, undef, undef, undef, undef, undef, undef, undef, undef, undef, undef, undef, undef, undef, undef, undef, undef, undef, undef, undef, undef, undef, .tuple #[.pointer none, .bool false], .bool false, .pointer none, undef, undef, undef, undef, undef, undef, undef, undef, undef, undef, undef, undef, undef, undef, undef, undef, undef, undef, undef, undef, undef, undef, undef, undef, undef, undef, undef, undef, undef, undef, undef, undef, undef, undef, undef, undef, undef, undef, undef, undef, undef, undef, undef, undef, undef, undef, undef, undef, undef, undef, undef, undef, undef, .tuple #[.pointer (some ⟨ib, 0, none⟩), .bool true], .bool true, .pointer (some ⟨ib, 0, none⟩), .pointer (some ⟨pb, 0, none⟩), .pointer (some ⟨ib, 0, none⟩), .pointer (some ⟨ib, 0, none⟩), .pointer (some ⟨ib, 0, none⟩), .agg #[.int .u32 src, .int .u32 ↑i], .tuple #[], .func (Fn.func 45) #[] #[.pointer (some ⟨bl, 0, none⟩), .pointer (some ⟨bo, 0, none⟩), .pointer (some ⟨be, 0, none⟩)], .pointer (some ⟨B, 1, none⟩), .agg #[.int .i32 ll], .pointer (some ⟨ib, 0, none⟩), .pointer (some ⟨ib, 0, none⟩), .pointer (some ⟨ib, 0, none⟩), .agg #[.int .u32 src, .int .u32 (i : Int)], .agg #[.int .u32 src, .int .u32 (i : Int), .bool false, .bool false, .bool false], .pointer (some ⟨α 8, 0, none⟩), .iface 55 (.pointer (some ⟨α 8, 0, none⟩)), .agg #[.iface 55 (.pointer (some ⟨α 8, 0, none⟩)), .int .i32 ll], .agg #[.iface 55 (.pointer (some ⟨ib, 0, none⟩)), .int .i32 ll], .agg #[.iface 41 (.pointer (some ⟨α 12, 0, none⟩)), .int .i32 loc], undef], []⟩ := by rw [← hfr]; kernel_rfl
    clear hfr
    subst hdf
    have z0 : u.cell? ⟨B + 1, 0, none⟩ = some (.iface 41 (.pointer (some ⟨α 12, 0, none⟩))) := f13_0.cell rfl
    have z1 : u.cell? ⟨B + 1, 1, none⟩ = some (.int .i32 loc) := f13_0.cell rfl
    have Hb2 := Lib.hid hb2
    have Hb0 := Lib.hid hb0
    have HG := Lib.hid hG
    clear hb2 hb0 hG
    go_wp2
    have hB := HB.out
    have hNe := HNe.out
    have hkb := HG.out.1
    refine bodyPost_ret (v := .agg #[.iface 41 (.pointer (some ⟨α 12, 0, none⟩)), .int .i32 loc]) ?_ rfl ?_
    · simp [results, Tryd.results44, go_sem, z0, z1]
    · refine ⟨α 12, α 1012, α 8, rfl, ⟨?_, Hb2.out.kept hkb (by simp; omega)⟩, by omega, f12_2, f12_1, f12_3, f12_4, f8_1⟩
      refine ⟨hkb.os.trans Hb0.out.os, hkb.tape.trans Hb0.out.tape, hkb.output.trans Hb0.out.output, Nat.le_trans Hb0.out.size hkb.size, fun k hk hn => ?_⟩
      exact (hkb.block k (by omega) (by simp; omega)).trans (Hb0.out.block k hk hn)
end Go.Proofs.YtlgefnjkoklboaaDoor.Use
