/- The lowering of a logical assignment to an indexed target, walked. No condition. -/
import Derived.Test.YtlgefnjkoklboaaDoorIdLogic
import Derived.Test.YtlgefnjkoklboaaDoorCap
import Derived.Test.YtlgefnjkoklboaaDoorNoPriv
import Derived.Test.YtlgefnjkoklboaaDoorLowIdent
namespace Go.Proofs.YtlgefnjkoklboaaDoor.Use
open Go.ChangeShapes Go.WideShapes Go.ChangeAt Go.RowKit Go.Sort
set_option linter.unusedVariables false
def rX1E (B N pb ob ib : Nat) (ll tl : Int) : Nat → Rega.Atoms → Value
  | 0, α => .pointer (some ⟨pb, 0, none⟩)
  | 1, α => .pointer (some ⟨B, 1, none⟩)
  | 2, α => .agg #[.int .i32 ll]
  | 3, α => .pointer (some ⟨ob, 0, none⟩)
  | 4, α => .pointer (some ⟨ob, 0, none⟩)
  | 5, α => .pointer (some ⟨ob, 0, none⟩)
  | 6, α => .agg #[.iface 55 (.pointer (some ⟨ib, 0, none⟩)), .int .i32 tl]
  | 7, α => .tuple #[.func (Fn.func 59) #[] #[.pointer (some ⟨α 7, 0, none⟩), .pointer (some ⟨α 7 + 1 + 1 + 1, 0, none⟩), .pointer (some ⟨α 7 + 1, 0, none⟩)], .func (Fn.func 50) #[] #[.pointer (some ⟨α 7 + 1 + 1, 0, none⟩)]]
  | 8, α => .tuple #[.func (Fn.func 59) #[] #[.pointer (some ⟨α 7, 0, none⟩), .pointer (some ⟨α 7 + 1 + 1 + 1, 0, none⟩), .pointer (some ⟨α 7 + 1, 0, none⟩)], .func (Fn.func 50) #[] #[.pointer (some ⟨α 7 + 1 + 1, 0, none⟩)]]
  | 9, α => .func (Fn.func 59) #[] #[.pointer (some ⟨α 7, 0, none⟩), .pointer (some ⟨α 7 + 1 + 1 + 1, 0, none⟩), .pointer (some ⟨α 7 + 1, 0, none⟩)]
  | 10, α => .func (Fn.func 50) #[] #[.pointer (some ⟨α 7 + 1 + 1, 0, none⟩)]
  | 11, α => .func (Fn.func 59) #[] #[.pointer (some ⟨α 7, 0, none⟩), .pointer (some ⟨α 7 + 1 + 1 + 1, 0, none⟩), .pointer (some ⟨α 7 + 1, 0, none⟩)]
  | 12, α => .func (Fn.func 50) #[] #[.pointer (some ⟨α 7 + 1 + 1, 0, none⟩)]
  | _, _ => undef
def rX1F (B N pb ob ib : Nat) (ll tl : Int) : Nat → (Nat → Bool) → Rega.Atoms → World → Prop
  | 7, L, α, u => N ≤ α 7 ∧ Base.RowAt u (α 7) 23 #[.pointer (some ⟨pb, 0, none⟩)] ∧ Base.RowAt u (α 7 + 1) 32 #[.int .i32 ll] ∧ Base.RowAt u (α 7 + 1 + 1) 34 #[.iface 55 (.pointer (some ⟨ib, 0, none⟩)), .int .i32 tl] ∧ Base.RowAt u (α 7 + 1 + 1 + 1) 55 #[.pointer (some ⟨ib, 0, none⟩)]
  | _, _, _, _ => True
def rX1Anc : Nat → List Nat
  | 2 => [1]
  | 4 => [3]
  | 5 => [3, 4]
  | 6 => [3, 4, 5]
  | 7 => [0, 1, 2, 3, 4, 5, 6]
  | 8 => [0, 1, 2, 3, 4, 5, 6, 7]
  | 9 => [0, 1, 2, 3, 4, 5, 6, 7, 8]
  | 10 => [0, 1, 2, 3, 4, 5, 6, 7, 8]
  | 11 => [0, 1, 2, 3, 4, 5, 6, 7, 8, 9]
  | 12 => [0, 1, 2, 3, 4, 5, 6, 7, 8, 9, 10, 11]
  | _ => []
def rX1Mods (B N pb ob ib : Nat) (ll tl : Int) : Nat → List Nat
  | _ => []
def rX1Step (B N pb ob ib : Nat) (ll tl : Int) (ii : Nat) (_ : Rega.Atoms) (w w' : World) : Prop := ii < 13 ∧ Base.KeptBut (rX1Mods B N pb ob ib ll tl ii) w w'
def rX1G (B N pb ob ib : Nat) (ll tl : Int) (W : World) (L : Nat → Bool) (u : World) : Prop := Base.KeptBut [] W u
theorem rX1_he (B N pb ob ib : Nat) (ll tl : Int) : ∀ kk α α', (∀ j, (j % 1000 = kk ∨ j % 1000 ∈ rX1Anc kk) → α j = α' j) → rX1E B N pb ob ib ll tl kk α = rX1E B N pb ob ib ll tl kk α' := by
  intro kk α α' h
  match kk with
  | 0 => rfl
  | 1 => rfl
  | 2 => rfl
  | 3 => rfl
  | 4 => rfl
  | 5 => rfl
  | 6 => rfl
  | 7 => simp only [rX1E, h 7 (Or.inl rfl)]
  | 8 => simp only [rX1E, h 7 (Or.inr (by decide))]
  | 9 => simp only [rX1E, h 7 (Or.inr (by decide))]
  | 10 => simp only [rX1E, h 7 (Or.inr (by decide))]
  | 11 => simp only [rX1E, h 7 (Or.inr (by decide))]
  | 12 => simp only [rX1E, h 7 (Or.inr (by decide))]
  | n + 13 => rfl
theorem rX1_hF (B N pb ob ib : Nat) (ll tl : Int) : ∀ kk L α α' u, (∀ j, (j % 1000 = kk ∨ j % 1000 ∈ rX1Anc kk) → α j = α' j) → rX1F B N pb ob ib ll tl kk L α u → rX1F B N pb ob ib ll tl kk L α' u := by
  intro kk L α α' u h hf
  match kk with
  | 0 => trivial
  | 1 => trivial
  | 2 => trivial
  | 3 => trivial
  | 4 => trivial
  | 5 => trivial
  | 6 => trivial
  | 7 => simpa only [rX1F, h 7 (Or.inl rfl)] using hf
  | 8 => trivial
  | 9 => trivial
  | 10 => trivial
  | 11 => trivial
  | 12 => trivial
  | n + 13 => trivial
theorem rX1_mods (B N pb ob ib : Nat) (ll tl : Int) (hBN : B + 2 ≤ N) : ∀ ii xq, xq ∈ rX1Mods B N pb ob ib ll tl ii → xq < N := by
  intro ii xq hx
  unfold rX1Mods at hx
  split at hx <;> simp at hx <;> omega
theorem rX1_hFs (B N pb ob ib : Nat) (ll tl : Int) (hBN : B + 2 ≤ N) : ∀ kk ii L α u u', ii ≠ kk → ii ∉ rX1Anc kk → L kk = true → L ii = false → (∀ j, L j = true → ∀ i, i ∈ rX1Anc j → L i = true) → (∀ j, j ∈ rX1Anc ii → L j = true) → rX1Step B N pb ob ib ll tl ii α u u' → rX1F B N pb ob ib ll tl kk L α u → rX1F B N pb ob ib ll tl kk (Rega.ran L ii) α u' := by
  intro kk ii L α u u' hne hni hLk hLi hcl hai hst hf
  have hm := rX1_mods B N pb ob ib ll tl hBN ii
  match kk with
  | 0 => trivial
  | 1 => trivial
  | 2 => trivial
  | 3 => trivial
  | 4 => trivial
  | 5 => trivial
  | 6 => trivial
  | 7 =>
    refine ⟨?_, ?_, ?_, ?_, ?_⟩
    · exact hf.1
    · exact hf.2.1.kept hst.2 (fun h => by have h1 := hm _ h; have h2 := hf.1; omega)
    · exact hf.2.2.1.kept hst.2 (fun h => by have h1 := hm _ h; have h2 := hf.1; omega)
    · exact hf.2.2.2.1.kept hst.2 (fun h => by have h1 := hm _ h; have h2 := hf.1; omega)
    · exact hf.2.2.2.2.kept hst.2 (fun h => by have h1 := hm _ h; have h2 := hf.1; omega)
  | 8 => trivial
  | 9 => trivial
  | 10 => trivial
  | 11 => trivial
  | 12 => trivial
  | n + 13 => trivial
theorem rX1_hGs (B N pb ob ib : Nat) (ll tl : Int) (hBN : B + 2 ≤ N) (W : World) : ∀ ii L α u u', L ii = false → (∀ j, L j = true → ∀ i, i ∈ rX1Anc j → L i = true) → (∀ j, j ∈ rX1Anc ii → L j = true) → rX1Step B N pb ob ib ll tl ii α u u' → rX1G B N pb ob ib ll tl W L u → rX1G B N pb ob ib ll tl W (Rega.ran L ii) u' := by
  intro ii L α u u' hLi hcl hai hst hG
  exact hG.trans (hst.2.mono (fun x hx => by unfold rX1Mods at hx; simp at hx))
def rX2E (B N D pb ob nb bl bo be : Nat) (ll il : Int) : Nat → Rega.Atoms → Value
  | 0, α => .pointer (some ⟨pb, 0, none⟩)
  | 1, α => .pointer (some ⟨B, 1, none⟩)
  | 2, α => .agg #[.int .i32 ll]
  | 3, α => .pointer (some ⟨ob, 0, none⟩)
  | 4, α => .pointer (some ⟨ob, 0, none⟩)
  | 5, α => .pointer (some ⟨ob, 2, none⟩)
  | 6, α => .agg #[.iface 36 (.pointer (some ⟨nb, 0, none⟩)), .int .i32 il]
  | 7, α => .tuple #[.func (Fn.func 55) #[] #[.pointer (some ⟨α 7 + 1, 0, none⟩), .pointer (some ⟨α 7 + 1 + 1 + 1, 0, none⟩)], .func (Fn.func 50) #[] #[.pointer (some ⟨α 7 + 1 + 1, 0, none⟩)]]
  | 8, α => .tuple #[.func (Fn.func 55) #[] #[.pointer (some ⟨α 7 + 1, 0, none⟩), .pointer (some ⟨α 7 + 1 + 1 + 1, 0, none⟩)], .func (Fn.func 50) #[] #[.pointer (some ⟨α 7 + 1 + 1, 0, none⟩)]]
  | 9, α => .func (Fn.func 55) #[] #[.pointer (some ⟨α 7 + 1, 0, none⟩), .pointer (some ⟨α 7 + 1 + 1 + 1, 0, none⟩)]
  | 10, α => .func (Fn.func 50) #[] #[.pointer (some ⟨α 7 + 1 + 1, 0, none⟩)]
  | 11, α => .func (Fn.func 55) #[] #[.pointer (some ⟨α 7 + 1, 0, none⟩), .pointer (some ⟨α 7 + 1 + 1 + 1, 0, none⟩)]
  | 12, α => .func (Fn.func 50) #[] #[.pointer (some ⟨α 7 + 1 + 1, 0, none⟩)]
  | _, _ => undef
def rX2F (B N D pb ob nb bl bo be : Nat) (ll il : Int) : Nat → (Nat → Bool) → Rega.Atoms → World → Prop
  | 7, L, α, u => N ≤ α 7 ∧ Base.RowAt u (α 7) 23 #[.pointer (some ⟨pb, 0, none⟩)] ∧ Base.RowAt u (α 7 + 1) 32 #[.int .i32 ll] ∧ Base.RowAt u (α 7 + 1 + 1) 34 #[.iface 36 (.pointer (some ⟨nb, 0, none⟩)), .int .i32 il] ∧ Base.RowAt u (α 7 + 1 + 1 + 1) 36 #[.pointer (some ⟨nb, 0, none⟩)]
  | _, _, _, _ => True
def rX2Anc : Nat → List Nat
  | 2 => [1]
  | 4 => [3]
  | 5 => [3, 4]
  | 6 => [3, 4, 5]
  | 7 => [0, 1, 2, 3, 4, 5, 6]
  | 8 => [0, 1, 2, 3, 4, 5, 6, 7]
  | 9 => [0, 1, 2, 3, 4, 5, 6, 7, 8]
  | 10 => [0, 1, 2, 3, 4, 5, 6, 7, 8]
  | 11 => [0, 1, 2, 3, 4, 5, 6, 7, 8, 9]
  | 12 => [0, 1, 2, 3, 4, 5, 6, 7, 8, 9, 10, 11]
  | _ => []
def rX2Mods (B N D pb ob nb bl bo be : Nat) (ll il : Int) : Nat → List Nat
  | _ => []
def rX2Step (B N D pb ob nb bl bo be : Nat) (ll il : Int) (ii : Nat) (_ : Rega.Atoms) (w w' : World) : Prop := ii < 13 ∧ Base.KeptBut (rX2Mods B N D pb ob nb bl bo be ll il ii) w w'
def rX2G (B N D pb ob nb bl bo be : Nat) (ll il : Int) (W : World) (L : Nat → Bool) (u : World) : Prop := Base.KeptBut [] W u
theorem rX2_he (B N D pb ob nb bl bo be : Nat) (ll il : Int) : ∀ kk α α', (∀ j, (j % 1000 = kk ∨ j % 1000 ∈ rX2Anc kk) → α j = α' j) → rX2E B N D pb ob nb bl bo be ll il kk α = rX2E B N D pb ob nb bl bo be ll il kk α' := by
  intro kk α α' h
  match kk with
  | 0 => rfl
  | 1 => rfl
  | 2 => rfl
  | 3 => rfl
  | 4 => rfl
  | 5 => rfl
  | 6 => rfl
  | 7 => simp only [rX2E, h 7 (Or.inl rfl)]
  | 8 => simp only [rX2E, h 7 (Or.inr (by decide))]
  | 9 => simp only [rX2E, h 7 (Or.inr (by decide))]
  | 10 => simp only [rX2E, h 7 (Or.inr (by decide))]
  | 11 => simp only [rX2E, h 7 (Or.inr (by decide))]
  | 12 => simp only [rX2E, h 7 (Or.inr (by decide))]
  | n + 13 => rfl
theorem rX2_hF (B N D pb ob nb bl bo be : Nat) (ll il : Int) : ∀ kk L α α' u, (∀ j, (j % 1000 = kk ∨ j % 1000 ∈ rX2Anc kk) → α j = α' j) → rX2F B N D pb ob nb bl bo be ll il kk L α u → rX2F B N D pb ob nb bl bo be ll il kk L α' u := by
  intro kk L α α' u h hf
  match kk with
  | 0 => trivial
  | 1 => trivial
  | 2 => trivial
  | 3 => trivial
  | 4 => trivial
  | 5 => trivial
  | 6 => trivial
  | 7 => simpa only [rX2F, h 7 (Or.inl rfl)] using hf
  | 8 => trivial
  | 9 => trivial
  | 10 => trivial
  | 11 => trivial
  | 12 => trivial
  | n + 13 => trivial
theorem rX2_mods (B N D pb ob nb bl bo be : Nat) (ll il : Int) (hBN : B + 2 ≤ N) : ∀ ii xq, xq ∈ rX2Mods B N D pb ob nb bl bo be ll il ii → xq < N := by
  intro ii xq hx
  unfold rX2Mods at hx
  split at hx <;> simp at hx <;> omega
theorem rX2_hFs (B N D pb ob nb bl bo be : Nat) (ll il : Int) (hBN : B + 2 ≤ N) : ∀ kk ii L α u u', ii ≠ kk → ii ∉ rX2Anc kk → L kk = true → L ii = false → (∀ j, L j = true → ∀ i, i ∈ rX2Anc j → L i = true) → (∀ j, j ∈ rX2Anc ii → L j = true) → rX2Step B N D pb ob nb bl bo be ll il ii α u u' → rX2F B N D pb ob nb bl bo be ll il kk L α u → rX2F B N D pb ob nb bl bo be ll il kk (Rega.ran L ii) α u' := by
  intro kk ii L α u u' hne hni hLk hLi hcl hai hst hf
  have hm := rX2_mods B N D pb ob nb bl bo be ll il hBN ii
  match kk with
  | 0 => trivial
  | 1 => trivial
  | 2 => trivial
  | 3 => trivial
  | 4 => trivial
  | 5 => trivial
  | 6 => trivial
  | 7 =>
    refine ⟨?_, ?_, ?_, ?_, ?_⟩
    · exact hf.1
    · exact hf.2.1.kept hst.2 (fun h => by have h1 := hm _ h; have h2 := hf.1; omega)
    · exact hf.2.2.1.kept hst.2 (fun h => by have h1 := hm _ h; have h2 := hf.1; omega)
    · exact hf.2.2.2.1.kept hst.2 (fun h => by have h1 := hm _ h; have h2 := hf.1; omega)
    · exact hf.2.2.2.2.kept hst.2 (fun h => by have h1 := hm _ h; have h2 := hf.1; omega)
  | 8 => trivial
  | 9 => trivial
  | 10 => trivial
  | 11 => trivial
  | 12 => trivial
  | n + 13 => trivial
theorem rX2_hGs (B N D pb ob nb bl bo be : Nat) (ll il : Int) (hBN : B + 2 ≤ N) (W : World) : ∀ ii L α u u', L ii = false → (∀ j, L j = true → ∀ i, i ∈ rX2Anc j → L i = true) → (∀ j, j ∈ rX2Anc ii → L j = true) → rX2Step B N D pb ob nb bl bo be ll il ii α u u' → rX2G B N D pb ob nb bl bo be ll il W L u → rX2G B N D pb ob nb bl bo be ll il W (Rega.ran L ii) u' := by
  intro ii L α u u' hLi hcl hai hst hG
  exact hG.trans (hst.2.mono (fun x hx => by unfold rX2Mods at hx; simp at hx))
def rX3E (B N D E pb sb i c ob ib nb bl bo be eb TR xr v : Nat) (src ll loc op lr : Int) (C : Array Value) : Nat → Rega.Atoms → Value
  | 0, α => .func (Fn.func 50) #[] #[.pointer (some ⟨D + 1 + 1, 0, none⟩)]
  | 1, α => .func (Fn.func 50) #[] #[.pointer (some ⟨E + 1 + 1, 0, none⟩)]
  | 2, α => .func (Fn.func 45) #[] #[.pointer (some ⟨bl, 0, none⟩), .pointer (some ⟨bo, 0, none⟩), .pointer (some ⟨be, 0, none⟩)]
  | 3, α => .pointer (some ⟨B, 1, none⟩)
  | 4, α => .agg #[.int .i32 ll]
  | 5, α => .func (Fn.func 59) #[] #[.pointer (some ⟨D, 0, none⟩), .pointer (some ⟨D + 1 + 1 + 1, 0, none⟩), .pointer (some ⟨D + 1, 0, none⟩)]
  | 6, α => .agg #[.iface 55 (.pointer (some ⟨α 6, 0, none⟩)), .int .i32 ll]
  | 7, α => .func (Fn.func 55) #[] #[.pointer (some ⟨E + 1, 0, none⟩), .pointer (some ⟨E + 1 + 1 + 1, 0, none⟩)]
  | 8, α => .agg #[.iface 36 (.pointer (some ⟨α 8, 0, none⟩)), .int .i32 ll]
  | 9, α => .agg #[.iface 55 (.pointer (some ⟨α 6, 0, none⟩)), .int .i32 ll, .iface 36 (.pointer (some ⟨α 8, 0, none⟩)), .int .i32 ll, .int .i32 0, .int .u8 0, .bool false, .bool false, .bool false]
  | 10, α => .pointer (some ⟨α 10, 0, none⟩)
  | 11, α => .iface 64 (.pointer (some ⟨α 10, 0, none⟩))
  | 12, α => .agg #[.iface 64 (.pointer (some ⟨α 10, 0, none⟩)), .int .i32 ll]
  | 13, α => .pointer (some ⟨B, 1, none⟩)
  | 14, α => .agg #[.int .i32 ll]
  | 15, α => .func (Fn.func 59) #[] #[.pointer (some ⟨D, 0, none⟩), .pointer (some ⟨D + 1 + 1 + 1, 0, none⟩), .pointer (some ⟨D + 1, 0, none⟩)]
  | 16, α => .agg #[.iface 55 (.pointer (some ⟨α 16, 0, none⟩)), .int .i32 ll]
  | 17, α => .func (Fn.func 55) #[] #[.pointer (some ⟨E + 1, 0, none⟩), .pointer (some ⟨E + 1 + 1 + 1, 0, none⟩)]
  | 18, α => .agg #[.iface 36 (.pointer (some ⟨α 18, 0, none⟩)), .int .i32 ll]
  | 19, α => .agg #[.iface 55 (.pointer (some ⟨α 16, 0, none⟩)), .int .i32 ll, .iface 36 (.pointer (some ⟨α 18, 0, none⟩)), .int .i32 ll, .int .i32 0, .int .u8 0, .bool false, .bool false, .bool false]
  | 20, α => .pointer (some ⟨α 20, 0, none⟩)
  | 21, α => .iface 64 (.pointer (some ⟨α 20, 0, none⟩))
  | 22, α => .agg #[.iface 64 (.pointer (some ⟨α 20, 0, none⟩)), .int .i32 ll]
  | 23, α => .agg #[.iface 41 (.pointer (some ⟨α 23, 0, none⟩)), .int .i32 loc]
  | 24, α => .agg #[.iface 41 (.pointer (some ⟨α 23, 0, none⟩)), .int .i32 loc]
  | 25, α => .agg #[.iface 41 (.pointer (some ⟨α 23, 0, none⟩)), .int .i32 loc]
  | 26, α => undef
  | _, _ => undef
def rX3F (B N D E pb sb i c ob ib nb bl bo be eb TR xr v : Nat) (src ll loc op lr : Int) (C : Array Value) : Nat → (Nat → Bool) → Rega.Atoms → World → Prop
  | 6, L, α, u => N ≤ α 6 ∧ Base.RowAt u (α 6) 214 #[.int .u32 src, .int .u32 (i : Int), .bool false, .bool false, .bool false] ∧ (L 16 = false → Base.RowAt u sb 223 (C.setIfInBounds (i * 10 + 4) (.int .u32 ((c + 1 : Nat) : Int))))
  | 8, L, α, u => N ≤ α 8 ∧ Base.RowAt u (α 8) 50 #[.float .f64 v] ∧ α 6 < α 8
  | 10, L, α, u => N ≤ α 10 ∧ Base.RowAt u (α 10) 69 #[.iface 55 (.pointer (some ⟨α 6, 0, none⟩)), .int .i32 ll, .iface 36 (.pointer (some ⟨α 8, 0, none⟩)), .int .i32 ll, .int .i32 0, .int .u8 0, .bool false, .bool false, .bool false] ∧ α 6 < α 10 ∧ α 8 < α 10
  | 16, L, α, u => N ≤ α 16 ∧ Base.RowAt u (α 16) 214 #[.int .u32 src, .int .u32 (i : Int), .bool false, .bool false, .bool false] ∧ α 6 < α 16 ∧ α 8 < α 16 ∧ Base.RowAt u sb 223 ((C.setIfInBounds (i * 10 + 4) (.int .u32 ((c + 1 : Nat) : Int))).setIfInBounds (i * 10 + 4) (.int .u32 ((c + 1 + 1 : Nat) : Int)))
  | 18, L, α, u => N ≤ α 18 ∧ Base.RowAt u (α 18) 50 #[.float .f64 v] ∧ α 6 < α 18 ∧ α 8 < α 18 ∧ α 16 < α 18
  | 20, L, α, u => N ≤ α 20 ∧ Base.RowAt u (α 20) 69 #[.iface 55 (.pointer (some ⟨α 16, 0, none⟩)), .int .i32 ll, .iface 36 (.pointer (some ⟨α 18, 0, none⟩)), .int .i32 ll, .int .i32 0, .int .u8 0, .bool false, .bool false, .bool false] ∧ α 6 < α 20 ∧ α 8 < α 20 ∧ α 16 < α 20 ∧ α 18 < α 20
  | 23, L, α, u => N ≤ α 1023 ∧ α 1023 < α 23 ∧ α 10 < α 1023 ∧ α 20 < α 1023 ∧ Base.RowAt u (α 23) 47 #[.iface 64 (.pointer (some ⟨α 10, 0, none⟩)), .int .i32 ll, .iface 41 (.pointer (some ⟨α 1023, 0, none⟩)), .int .i32 ll, .int .u8 op, .bool false] ∧ Base.RowAt u (α 1023) 47 #[.iface 64 (.pointer (some ⟨α 20, 0, none⟩)), .int .i32 ll, .iface TR (.pointer (some ⟨xr, 0, none⟩)), .int .i32 lr, .int .u8 37, .bool false]
  | 26, L, α, u => Base.RowAt u (B + 1) 34 #[.iface 41 (.pointer (some ⟨α 23, 0, none⟩)), .int .i32 loc]
  | _, _, _, _ => True
def rX3Anc : Nat → List Nat
  | 4 => [3]
  | 6 => [5]
  | 8 => [5, 6, 7]
  | 9 => [5, 6, 7, 8]
  | 10 => [5, 6, 7, 8, 9]
  | 11 => [5, 6, 7, 8, 9, 10]
  | 12 => [3, 4, 5, 6, 7, 8, 9, 10, 11]
  | 14 => [13]
  | 16 => [5, 6, 7, 8, 15]
  | 18 => [5, 6, 7, 8, 15, 16, 17]
  | 19 => [5, 6, 7, 8, 15, 16, 17, 18]
  | 20 => [5, 6, 7, 8, 15, 16, 17, 18, 19]
  | 21 => [5, 6, 7, 8, 15, 16, 17, 18, 19, 20]
  | 22 => [5, 6, 7, 8, 13, 14, 15, 16, 17, 18, 19, 20, 21]
  | 23 => [2, 3, 4, 5, 6, 7, 8, 9, 10, 11, 12, 13, 14, 15, 16, 17, 18, 19, 20, 21, 22]
  | 24 => [1, 2, 3, 4, 5, 6, 7, 8, 9, 10, 11, 12, 13, 14, 15, 16, 17, 18, 19, 20, 21, 22, 23]
  | 25 => [0, 1, 2, 3, 4, 5, 6, 7, 8, 9, 10, 11, 12, 13, 14, 15, 16, 17, 18, 19, 20, 21, 22, 23, 24]
  | 26 => [0, 1, 2, 3, 4, 5, 6, 7, 8, 9, 10, 11, 12, 13, 14, 15, 16, 17, 18, 19, 20, 21, 22, 23, 24, 25]
  | _ => []
def rX3Mods (B N D E pb sb i c ob ib nb bl bo be eb TR xr v : Nat) (src ll loc op lr : Int) (C : Array Value) : Nat → List Nat
  | 6 => [sb]
  | 16 => [sb]
  | 26 => [B + 1]
  | _ => []
def rX3Step (B N D E pb sb i c ob ib nb bl bo be eb TR xr v : Nat) (src ll loc op lr : Int) (C : Array Value) (ii : Nat) (_ : Rega.Atoms) (w w' : World) : Prop := ii < 27 ∧ Base.KeptBut (rX3Mods B N D E pb sb i c ob ib nb bl bo be eb TR xr v src ll loc op lr C ii) w w'
def rX3G (B N D E pb sb i c ob ib nb bl bo be eb TR xr v : Nat) (src ll loc op lr : Int) (C : Array Value) (W : World) (L : Nat → Bool) (u : World) : Prop := Base.KeptBut [B + 1, sb] W u ∧ (L 6 = false → Base.RowAt u sb 223 C) ∧ (L 26 = false → Base.RowAt u (B + 1) 34 #[.nilIface, .int .i32 0])
theorem rX3_he (B N D E pb sb i c ob ib nb bl bo be eb TR xr v : Nat) (src ll loc op lr : Int) (C : Array Value) : ∀ kk α α', (∀ j, (j % 1000 = kk ∨ j % 1000 ∈ rX3Anc kk) → α j = α' j) → rX3E B N D E pb sb i c ob ib nb bl bo be eb TR xr v src ll loc op lr C kk α = rX3E B N D E pb sb i c ob ib nb bl bo be eb TR xr v src ll loc op lr C kk α' := by
  intro kk α α' h
  match kk with
  | 0 => rfl
  | 1 => rfl
  | 2 => rfl
  | 3 => rfl
  | 4 => rfl
  | 5 => rfl
  | 6 => simp only [rX3E, h 6 (Or.inl rfl)]
  | 7 => rfl
  | 8 => simp only [rX3E, h 8 (Or.inl rfl)]
  | 9 => simp only [rX3E, h 6 (Or.inr (by decide)), h 8 (Or.inr (by decide))]
  | 10 => simp only [rX3E, h 10 (Or.inl rfl)]
  | 11 => simp only [rX3E, h 10 (Or.inr (by decide))]
  | 12 => simp only [rX3E, h 10 (Or.inr (by decide))]
  | 13 => rfl
  | 14 => rfl
  | 15 => rfl
  | 16 => simp only [rX3E, h 16 (Or.inl rfl)]
  | 17 => rfl
  | 18 => simp only [rX3E, h 18 (Or.inl rfl)]
  | 19 => simp only [rX3E, h 16 (Or.inr (by decide)), h 18 (Or.inr (by decide))]
  | 20 => simp only [rX3E, h 20 (Or.inl rfl)]
  | 21 => simp only [rX3E, h 20 (Or.inr (by decide))]
  | 22 => simp only [rX3E, h 20 (Or.inr (by decide))]
  | 23 => simp only [rX3E, h 23 (Or.inl rfl)]
  | 24 => simp only [rX3E, h 23 (Or.inr (by decide))]
  | 25 => simp only [rX3E, h 23 (Or.inr (by decide))]
  | 26 => rfl
  | n + 27 => rfl
theorem rX3_hF (B N D E pb sb i c ob ib nb bl bo be eb TR xr v : Nat) (src ll loc op lr : Int) (C : Array Value) : ∀ kk L α α' u, (∀ j, (j % 1000 = kk ∨ j % 1000 ∈ rX3Anc kk) → α j = α' j) → rX3F B N D E pb sb i c ob ib nb bl bo be eb TR xr v src ll loc op lr C kk L α u → rX3F B N D E pb sb i c ob ib nb bl bo be eb TR xr v src ll loc op lr C kk L α' u := by
  intro kk L α α' u h hf
  match kk with
  | 0 => trivial
  | 1 => trivial
  | 2 => trivial
  | 3 => trivial
  | 4 => trivial
  | 5 => trivial
  | 6 => simpa only [rX3F, h 6 (Or.inl rfl)] using hf
  | 7 => trivial
  | 8 => simpa only [rX3F, h 6 (Or.inr (by decide)), h 8 (Or.inl rfl)] using hf
  | 9 => trivial
  | 10 => simpa only [rX3F, h 6 (Or.inr (by decide)), h 8 (Or.inr (by decide)), h 10 (Or.inl rfl)] using hf
  | 11 => trivial
  | 12 => trivial
  | 13 => trivial
  | 14 => trivial
  | 15 => trivial
  | 16 => simpa only [rX3F, h 6 (Or.inr (by decide)), h 8 (Or.inr (by decide)), h 16 (Or.inl rfl)] using hf
  | 17 => trivial
  | 18 => simpa only [rX3F, h 6 (Or.inr (by decide)), h 8 (Or.inr (by decide)), h 16 (Or.inr (by decide)), h 18 (Or.inl rfl)] using hf
  | 19 => trivial
  | 20 => simpa only [rX3F, h 6 (Or.inr (by decide)), h 8 (Or.inr (by decide)), h 16 (Or.inr (by decide)), h 18 (Or.inr (by decide)), h 20 (Or.inl rfl)] using hf
  | 21 => trivial
  | 22 => trivial
  | 23 => simpa only [rX3F, h 10 (Or.inr (by decide)), h 20 (Or.inr (by decide)), h 23 (Or.inl rfl), h 1023 (Or.inl rfl)] using hf
  | 24 => trivial
  | 25 => trivial
  | 26 => simpa only [rX3F, h 23 (Or.inr (by decide))] using hf
  | n + 27 => trivial
theorem rX3_mods (B N D E pb sb i c ob ib nb bl bo be eb TR xr v : Nat) (src ll loc op lr : Int) (C : Array Value) (hBN : B + 2 ≤ N) (hsB : sb < B) : ∀ ii xq, xq ∈ rX3Mods B N D E pb sb i c ob ib nb bl bo be eb TR xr v src ll loc op lr C ii → xq < N := by
  intro ii xq hx
  unfold rX3Mods at hx
  split at hx <;> simp at hx <;> omega
theorem rX3_hFs (B N D E pb sb i c ob ib nb bl bo be eb TR xr v : Nat) (src ll loc op lr : Int) (C : Array Value) (hBN : B + 2 ≤ N) (hsB : sb < B) : ∀ kk ii L α u u', ii ≠ kk → ii ∉ rX3Anc kk → L kk = true → L ii = false → (∀ j, L j = true → ∀ i, i ∈ rX3Anc j → L i = true) → (∀ j, j ∈ rX3Anc ii → L j = true) → rX3Step B N D E pb sb i c ob ib nb bl bo be eb TR xr v src ll loc op lr C ii α u u' → rX3F B N D E pb sb i c ob ib nb bl bo be eb TR xr v src ll loc op lr C kk L α u → rX3F B N D E pb sb i c ob ib nb bl bo be eb TR xr v src ll loc op lr C kk (Rega.ran L ii) α u' := by
  intro kk ii L α u u' hne hni hLk hLi hcl hai hst hf
  have hm := rX3_mods B N D E pb sb i c ob ib nb bl bo be eb TR xr v src ll loc op lr C hBN hsB ii
  match kk with
  | 0 => trivial
  | 1 => trivial
  | 2 => trivial
  | 3 => trivial
  | 4 => trivial
  | 5 => trivial
  | 6 =>
    refine ⟨?_, ?_, ?_⟩
    · exact hf.1
    · exact hf.2.1.kept hst.2 (fun h => by have h1 := hm _ h; have h2 := hf.1; omega)
    · intro hg
      have hik : ii ≠ 16 := by rintro rfl; simp [Rega.ran] at hg
      have hLn : L 16 = false := by simpa [Rega.ran, Ne.symm hik] using hg
      refine (hf.2.2 hLn).kept hst.2 ?_
      intro h
      unfold rX3Mods at h
      split at h <;> first | exact absurd rfl hne | exact hni (by decide) | exact absurd rfl hik | exact absurd (hai 16 (by decide)) (by rw [hLn]; decide) | (simp at h; done) | (simp at h; omega)
  | 7 => trivial
  | 8 =>
    refine ⟨?_, ?_, ?_⟩
    · exact hf.1
    · exact hf.2.1.kept hst.2 (fun h => by have h1 := hm _ h; have h2 := hf.1; omega)
    · exact hf.2.2
  | 9 => trivial
  | 10 =>
    refine ⟨?_, ?_, ?_, ?_⟩
    · exact hf.1
    · exact hf.2.1.kept hst.2 (fun h => by have h1 := hm _ h; have h2 := hf.1; omega)
    · exact hf.2.2.1
    · exact hf.2.2.2
  | 11 => trivial
  | 12 => trivial
  | 13 => trivial
  | 14 => trivial
  | 15 => trivial
  | 16 =>
    refine ⟨?_, ?_, ?_, ?_, ?_⟩
    · exact hf.1
    · exact hf.2.1.kept hst.2 (fun h => by have h1 := hm _ h; have h2 := hf.1; omega)
    · exact hf.2.2.1
    · exact hf.2.2.2.1
    · refine hf.2.2.2.2.kept hst.2 ?_
      intro h
      unfold rX3Mods at h
      split at h <;> first | exact absurd rfl hne | exact hni (by decide) | (simp at h; done) | (simp at h; omega)
  | 17 => trivial
  | 18 =>
    refine ⟨?_, ?_, ?_, ?_, ?_⟩
    · exact hf.1
    · exact hf.2.1.kept hst.2 (fun h => by have h1 := hm _ h; have h2 := hf.1; omega)
    · exact hf.2.2.1
    · exact hf.2.2.2.1
    · exact hf.2.2.2.2
  | 19 => trivial
  | 20 =>
    refine ⟨?_, ?_, ?_, ?_, ?_, ?_⟩
    · exact hf.1
    · exact hf.2.1.kept hst.2 (fun h => by have h1 := hm _ h; have h2 := hf.1; omega)
    · exact hf.2.2.1
    · exact hf.2.2.2.1
    · exact hf.2.2.2.2.1
    · exact hf.2.2.2.2.2
  | 21 => trivial
  | 22 => trivial
  | 23 =>
    refine ⟨?_, ?_, ?_, ?_, ?_, ?_⟩
    · exact hf.1
    · exact hf.2.1
    · exact hf.2.2.1
    · exact hf.2.2.2.1
    · exact hf.2.2.2.2.1.kept hst.2 (fun h => by have h1 := hm _ h; have h2 := hf.1; have h3 := hf.2.1; omega)
    · exact hf.2.2.2.2.2.kept hst.2 (fun h => by have h1 := hm _ h; have h2 := hf.1; omega)
  | 24 => trivial
  | 25 => trivial
  | 26 =>
    refine hf.kept hst.2 ?_
    intro h
    unfold rX3Mods at h
    split at h <;> first | exact absurd rfl hne | exact hni (by decide) | (simp at h; done) | (simp at h; omega)
  | n + 27 => trivial
theorem rX3_hGs (B N D E pb sb i c ob ib nb bl bo be eb TR xr v : Nat) (src ll loc op lr : Int) (C : Array Value) (hBN : B + 2 ≤ N) (hsB : sb < B) (W : World) : ∀ ii L α u u', L ii = false → (∀ j, L j = true → ∀ i, i ∈ rX3Anc j → L i = true) → (∀ j, j ∈ rX3Anc ii → L j = true) → rX3Step B N D E pb sb i c ob ib nb bl bo be eb TR xr v src ll loc op lr C ii α u u' → rX3G B N D E pb sb i c ob ib nb bl bo be eb TR xr v src ll loc op lr C W L u → rX3G B N D E pb sb i c ob ib nb bl bo be eb TR xr v src ll loc op lr C W (Rega.ran L ii) u' := by
  intro ii L α u u' hLi hcl hai hst hG
  obtain ⟨hk, g0, g1⟩ := hG
  refine ⟨hk.trans (hst.2.mono (fun x hx => by unfold rX3Mods at hx; split at hx <;> simp at hx <;> simp [hx])), ?_, ?_⟩
  · intro hg
    have hik : ii ≠ 6 := by rintro rfl; simp [Rega.ran] at hg
    have hLn : L 6 = false := by simpa [Rega.ran, Ne.symm hik] using hg
    refine (g0 hLn).kept hst.2 ?_
    intro h
    unfold rX3Mods at h
    split at h <;> first | exact absurd rfl hik | exact absurd (hai 6 (by decide)) (by rw [hLn]; decide) | (simp at h; done) | (simp at h; omega)
  · intro hg
    have hik : ii ≠ 26 := by rintro rfl; simp [Rega.ran] at hg
    have hLn : L 26 = false := by simpa [Rega.ran, Ne.symm hik] using hg
    refine (g1 hLn).kept hst.2 ?_
    intro h
    unfold rX3Mods at h
    split at h <;> first | exact absurd rfl hik | exact absurd (hai 26 (by decide)) (by rw [hLn]; decide) | (simp at h; done) | (simp at h; omega)
/-- 'obj[k] op (obj[k] = r)' has been made; obj is counted twice more. -/
def LowIxLogical (sb i c TR xr v : Nat) (src ll loc op lr : Int) (C : Array Value) (w : World) (e : Ending) (w' : World) : Prop :=
  ∃ b a x1 x2 i1 i2 m1 m2, e = .returned (.agg #[.iface 41 (.pointer (some ⟨b, 0, none⟩)), .int .i32 loc]) ∧ (Base.KeptBut [sb] w w' ∧ Base.RowAt w' sb 223 ((C.setIfInBounds (i * 10 + 4) (.int .u32 ((c + 1 : Nat) : Int))).setIfInBounds (i * 10 + 4) (.int .u32 ((c + 1 + 1 : Nat) : Int)))) ∧ w.heap.size ≤ i1 ∧ i1 < m1 ∧ i1 < i2 ∧ m1 < m2 ∧ i1 < x1 ∧ i1 < x2 ∧ x1 ≠ x2 ∧ x1 < a ∧ x2 < a ∧ a < b ∧
    Base.RowAt w' b 47 #[.iface 64 (.pointer (some ⟨x1, 0, none⟩)), .int .i32 ll, .iface 41 (.pointer (some ⟨a, 0, none⟩)), .int .i32 ll, .int .u8 op, .bool false] ∧
    Base.RowAt w' a 47 #[.iface 64 (.pointer (some ⟨x2, 0, none⟩)), .int .i32 ll, .iface TR (.pointer (some ⟨xr, 0, none⟩)), .int .i32 lr, .int .u8 37, .bool false] ∧
    Base.RowAt w' x1 69 #[.iface 55 (.pointer (some ⟨i1, 0, none⟩)), .int .i32 ll, .iface 36 (.pointer (some ⟨m1, 0, none⟩)), .int .i32 ll, .int .i32 0, .int .u8 0, .bool false, .bool false, .bool false] ∧ Base.RowAt w' x2 69 #[.iface 55 (.pointer (some ⟨i2, 0, none⟩)), .int .i32 ll, .iface 36 (.pointer (some ⟨m2, 0, none⟩)), .int .i32 ll, .int .i32 0, .int .u8 0, .bool false, .bool false, .bool false] ∧ Base.RowAt w' i1 214 #[.int .u32 src, .int .u32 (i : Int), .bool false, .bool false, .bool false] ∧ Base.RowAt w' i2 214 #[.int .u32 src, .int .u32 (i : Int), .bool false, .bool false, .bool false] ∧ Base.RowAt w' m1 50 #[.float .f64 v] ∧ Base.RowAt w' m2 50 #[.float .f64 v]
set_option maxRecDepth 100000 in
set_option maxHeartbeats 2000000 in
set_option format.width 10000 in
theorem lowIxLogical (pb sb n cap i c ob ib nb bl bo be eb TR xr v : Nat) (src tl il ll loc op lr : Int) (C : Array Value) (w : World) (hP : ParAt w pb sb n cap) (hi : i < n) (hn : n ≤ 4294967295) (hne : pb ≠ sb)
    (hC : Base.RowAt w sb 223 C) (hc : C[i * 10 + 4]? = some (.int .u32 (c : Int))) (hcm : c < 4294967294)
    (ro : Base.RowAt w ob 69 #[.iface 55 (.pointer (some ⟨ib, 0, none⟩)), .int .i32 tl, .iface 36 (.pointer (some ⟨nb, 0, none⟩)), .int .i32 il, .int .i32 0, .int .u8 0, .bool false, .bool false, .bool false]) (hob : ob ≠ sb)
    (ri : Base.RowAt w ib 214 #[.int .u32 src, .int .u32 (i : Int), .bool false, .bool false, .bool false]) (hib : ib ≠ sb) (rn : Base.RowAt w nb 50 #[.float .f64 v]) (hnb : nb ≠ sb)
    (k0 : Base.RowAt w bl 32 #[.int .i32 loc]) (k1 : Base.RowAt w bo 45 #[.int .u8 op]) (k2 : Base.RowAt w be 41 #[.pointer (some ⟨eb, 0, none⟩)]) (n0 : bl ≠ sb) (n1 : bo ≠ sb) (n2 : be ≠ sb) (n3 : eb ≠ sb)
    (k3 : w.cell? ⟨eb, 2, none⟩ = some (.iface TR (.pointer (some ⟨xr, 0, none⟩)))) (k4 : w.cell? ⟨eb, 3, none⟩ = some (.int .i32 lr)) :
    Calls Tryd.prog 44 #[.pointer (some ⟨pb, 0, none⟩), .agg #[.iface 64 (.pointer (some ⟨ob, 0, none⟩)), .int .i32 ll], .func (Fn.func 45) #[] #[.pointer (some ⟨bl, 0, none⟩), .pointer (some ⟨bo, 0, none⟩), .pointer (some ⟨be, 0, none⟩)]] w (LowIxLogical sb i c TR xr v src ll loc op lr C w) := by
  have o0 : w.cell? ⟨ob, 0, none⟩ = some (.iface 55 (.pointer (some ⟨ib, 0, none⟩))) := ro.cell rfl
  have o1 : w.cell? ⟨ob, 1, none⟩ = some (.int .i32 tl) := ro.cell rfl
  have o2 : w.cell? ⟨ob, 2, none⟩ = some (.iface 36 (.pointer (some ⟨nb, 0, none⟩))) := ro.cell rfl
  have o3 : w.cell? ⟨ob, 3, none⟩ = some (.int .i32 il) := ro.cell rfl
  have o5 : w.cell? ⟨ob, 5, none⟩ = some (.int .u8 0) := ro.cell rfl
  have lo := ro.lt
  have HP := Lib.hid hP
  have HC := Lib.hid hC
  have Hc := Lib.hid hc
  clear hc hP hC
  go_enter Tryd.func44, Tryd.ntmps44
  go_wp2
  generalize hW : World.alloc _ _ = W
  have hz : w.heap.size + 2 ≤ W.heap.size := by rw [← hW]; simp <;> omega
  have hbW : Below w.heap.size w W := by rw [← hW]; go_grown
  have r0 : Base.RowAt W (w.heap.size) 34 #[.iface 64 (.pointer (some ⟨ob, 0, none⟩)), .int .i32 ll] := by
    rw [← hW]
    repeat (first | (refine Base.RowAt.new' _ _ _ _ ?_; simp; done) | refine Base.RowAt.drew ?_ | refine Base.RowAt.alloc ?_ _)
  have r1 : Base.RowAt W (w.heap.size + 1) 34 #[.nilIface, .int .i32 0] := by
    rw [← hW]
    repeat (first | (refine Base.RowAt.new' _ _ _ _ ?_; simp; done) | refine Base.RowAt.drew ?_ | refine Base.RowAt.alloc ?_ _)
  clear hW
  obtain ⟨B, hB⟩ : ∃ B, B = w.heap.size := ⟨_, rfl⟩
  obtain ⟨N, hNe⟩ : ∃ N, N = W.heap.size := ⟨_, rfl⟩
  have hNW : N ≤ W.heap.size := Nat.le_of_eq hNe
  have hBN : B + 2 ≤ N := by omega
  have HNe := Lib.hid hNe
  rw [← hB] at r0 r1 ⊢
  have HB := Lib.hid hB
  clear hB hNe
  have o0 := Base.cell_below hbW lo o0
  have o1 := Base.cell_below hbW lo o1
  have o2 := Base.cell_below hbW lo o2
  have o3 := Base.cell_below hbW lo o3
  have hoB : ob < B := by have := HB.out; omega
  refine Rega.wp_region_atoms (e := rX1E B N pb ob ib ll tl) (F := rX1F B N pb ob ib ll tl) (anc := rX1Anc) (G := rX1G B N pb ob ib ll tl W) (Step := rX1Step B N pb ob ib ll tl) (by kernel_rfl) (by kernel_rfl) (by kernel_rfl) (by kernel_rfl) (rX1_he B N pb ob ib ll tl) (rX1_hF B N pb ob ib ll tl) (rX1_hFs B N pb ob ib ll tl hBN) (rX1_hGs B N pb ob ib ll tl hBN W) ((Base.KeptBut.refl _ _).drew) (Rega.RunsAll.all ?_) ?_
  · refine ⟨?_, ?_, ?_, ?_, ?_, ?_, ?_, ?_, ?_, ?_, ?_, ?_, ?_, trivial⟩
    · intro L α a u K hL hcl hG hA hS h0 hK
      have q0 : a.tmps[0]? = some (.pointer (some ⟨pb, 0, none⟩)) := (h0 0 (by kernel_rfl)).trans rfl
      have s0 := Rega.eval_of q0
      go_simp
      exact hK _ α _ (fun _ _ => rfl) rfl trivial ⟨by decide, .refl _ _⟩
    · intro L α a u K hL hcl hG hA hS h0 hK
      have q4 : a.tmps[4]? = some (.pointer (some ⟨B, 0, none⟩)) := (h0 4 (by kernel_rfl)).trans rfl
      have s4 := Rega.eval_of q4
      go_simp
      exact hK _ α _ (fun _ _ => rfl) rfl trivial ⟨by decide, .refl _ _⟩
    · intro L α a u K hL hcl hG hA hS h0 hK
      have q83 : a.tmps[83]? = some (.pointer (some ⟨B, 1, none⟩)) := hS 1 83 (by decide) rfl (by show 83 < 152; decide)
      have s83 := Rega.eval_of q83
      have c0 : u.cell? ⟨B, 1, none⟩ = some (.int .i32 ll) := hG.cell_some (r0.cell rfl) (by simp <;> omega)
      go_simp
      exact hK _ α _ (fun _ _ => rfl) rfl trivial ⟨by decide, .refl _ _⟩
    · intro L α a u K hL hcl hG hA hS h0 hK
      have q10 : a.tmps[10]? = some (.pointer (some ⟨ob, 0, none⟩)) := (h0 10 (by kernel_rfl)).trans rfl
      have s10 := Rega.eval_of q10
      go_simp
      exact hK _ α _ (fun _ _ => rfl) rfl trivial ⟨by decide, .refl _ _⟩
    · intro L α a u K hL hcl hG hA hS h0 hK
      have q85 : a.tmps[85]? = some (.pointer (some ⟨ob, 0, none⟩)) := hS 3 85 (by decide) rfl (by show 85 < 152; decide)
      have s85 := Rega.eval_of q85
      go_simp
      exact hK _ α _ (fun _ _ => rfl) rfl trivial ⟨by decide, .refl _ _⟩
    · intro L α a u K hL hcl hG hA hS h0 hK
      have q86 : a.tmps[86]? = some (.pointer (some ⟨ob, 0, none⟩)) := hS 4 86 (by decide) rfl (by show 86 < 152; decide)
      have s86 := Rega.eval_of q86
      go_simp
      exact hK _ α _ (fun _ _ => rfl) rfl trivial ⟨by decide, .refl _ _⟩
    · intro L α a u K hL hcl hG hA hS h0 hK
      have q87 : a.tmps[87]? = some (.pointer (some ⟨ob, 0, none⟩)) := hS 5 87 (by decide) rfl (by show 87 < 152; decide)
      have s87 := Rega.eval_of q87
      have c0 : u.cell? ⟨ob, 0, none⟩ = some (.iface 55 (.pointer (some ⟨ib, 0, none⟩))) := hG.cell_some o0 (by simp <;> omega)
      have c1 : u.cell? ⟨ob, 1, none⟩ = some (.int .i32 tl) := hG.cell_some o1 (by simp <;> omega)
      go_simp
      exact hK _ α _ (fun _ _ => rfl) rfl trivial ⟨by decide, .refl _ _⟩
    · intro L α a u K hL hcl hG hA hS h0 hK
      have q82 : a.tmps[82]? = some (.pointer (some ⟨pb, 0, none⟩)) := hS 0 82 (by decide) rfl (by show 82 < 152; decide)
      have s82 := Rega.eval_of q82
      have q84 : a.tmps[84]? = some (.agg #[.int .i32 ll]) := hS 2 84 (by decide) rfl (by show 84 < 152; decide)
      have s84 := Rega.eval_of q84
      have q88 : a.tmps[88]? = some (.agg #[.iface 55 (.pointer (some ⟨ib, 0, none⟩)), .int .i32 tl]) := hS 6 88 (by decide) rfl (by show 88 < 152; decide)
      have s88 := Rega.eval_of q88
      go_simp
      refine Calls.mono (capIdent pb ib ll tl _) ?_
      rintro e u1 ⟨b, rfl, hlo, hb, g0, g1, g2, g3⟩
      exact hK _ (fun j => if j = 7 then b else α j) _ (fun j hj => if_neg (by omega)) rfl ⟨Nat.le_trans (Nat.le_trans hNW hG.size) hlo, g0, g1, g2, g3⟩ ⟨by decide, Base.KeptBut.of_below hb⟩
    · intro L α a u K hL hcl hG hA hS h0 hK
      have q89 : a.tmps[89]? = some (.tuple #[.func (Fn.func 59) #[] #[.pointer (some ⟨α 7, 0, none⟩), .pointer (some ⟨α 7 + 1 + 1 + 1, 0, none⟩), .pointer (some ⟨α 7 + 1, 0, none⟩)], .func (Fn.func 50) #[] #[.pointer (some ⟨α 7 + 1 + 1, 0, none⟩)]]) := hS 7 89 (by decide) rfl (by show 89 < 152; decide)
      have s89 := Rega.eval_of q89
      go_simp
      exact hK _ α _ (fun _ _ => rfl) rfl trivial ⟨by decide, .refl _ _⟩
    · intro L α a u K hL hcl hG hA hS h0 hK
      have q81 : a.tmps[81]? = some (.tuple #[.func (Fn.func 59) #[] #[.pointer (some ⟨α 7, 0, none⟩), .pointer (some ⟨α 7 + 1 + 1 + 1, 0, none⟩), .pointer (some ⟨α 7 + 1, 0, none⟩)], .func (Fn.func 50) #[] #[.pointer (some ⟨α 7 + 1 + 1, 0, none⟩)]]) := hS 8 81 (by decide) rfl (by show 81 < 152; decide)
      have s81 := Rega.eval_of q81
      go_simp
      exact hK _ α _ (fun _ _ => rfl) rfl trivial ⟨by decide, .refl _ _⟩
    · intro L α a u K hL hcl hG hA hS h0 hK
      have q81 : a.tmps[81]? = some (.tuple #[.func (Fn.func 59) #[] #[.pointer (some ⟨α 7, 0, none⟩), .pointer (some ⟨α 7 + 1 + 1 + 1, 0, none⟩), .pointer (some ⟨α 7 + 1, 0, none⟩)], .func (Fn.func 50) #[] #[.pointer (some ⟨α 7 + 1 + 1, 0, none⟩)]]) := hS 8 81 (by decide) rfl (by show 81 < 152; decide)
      have s81 := Rega.eval_of q81
      go_simp
      exact hK _ α _ (fun _ _ => rfl) rfl trivial ⟨by decide, .refl _ _⟩
    · intro L α a u K hL hcl hG hA hS h0 hK
      have q90 : a.tmps[90]? = some (.func (Fn.func 59) #[] #[.pointer (some ⟨α 7, 0, none⟩), .pointer (some ⟨α 7 + 1 + 1 + 1, 0, none⟩), .pointer (some ⟨α 7 + 1, 0, none⟩)]) := hS 9 90 (by decide) rfl (by show 90 < 152; decide)
      have s90 := Rega.eval_of q90
      go_simp
      exact hK _ α _ (fun _ _ => rfl) rfl trivial ⟨by decide, .refl _ _⟩
    · intro L α a u K hL hcl hG hA hS h0 hK
      have q91 : a.tmps[91]? = some (.func (Fn.func 50) #[] #[.pointer (some ⟨α 7 + 1 + 1, 0, none⟩)]) := hS 10 91 (by decide) rfl (by show 91 < 152; decide)
      have s91 := Rega.eval_of q91
      go_simp
      exact hK _ α _ (fun _ _ => rfl) rfl trivial ⟨by decide, .refl _ _⟩
  · intro α u hG hF
    have f7_0 : N ≤ α 7 := (hF 7 (by decide)).1
    have f7_1 : Base.RowAt u (α 7) 23 #[.pointer (some ⟨pb, 0, none⟩)] := (hF 7 (by decide)).2.1
    have f7_2 : Base.RowAt u (α 7 + 1) 32 #[.int .i32 ll] := (hF 7 (by decide)).2.2.1
    have f7_3 : Base.RowAt u (α 7 + 1 + 1) 34 #[.iface 55 (.pointer (some ⟨ib, 0, none⟩)), .int .i32 tl] := (hF 7 (by decide)).2.2.2.1
    have f7_4 : Base.RowAt u (α 7 + 1 + 1 + 1) 55 #[.pointer (some ⟨ib, 0, none⟩)] := (hF 7 (by decide)).2.2.2.2
    clear hF
    generalize hfr : Rega.frameAt _ _ _ _ _ = fr
    have hdf : fr = ⟨#[.pointer (some ⟨pb, 0, none⟩), .agg #[.iface 64 (.pointer (some ⟨ob, 0, none⟩)), .int .i32 ll], .func (Fn.func 45) #[] #[.pointer (some ⟨bl, 0, none⟩), .pointer (some ⟨bo, 0, none⟩), .pointer (some ⟨be, 0, none⟩)], undef, .pointer (some ⟨B, 0, none⟩), undef, .pointer (some ⟨B + 1, 0, none⟩), undef, undef, undef, .pointer (some ⟨ob, 0, none⟩), .func (Fn.func 59) #[] #[.pointer (some ⟨α 7, 0, none⟩), .pointer (some ⟨α 7 + 1 + 1 + 1, 0, none⟩), .pointer (some ⟨α 7 + 1, 0, none⟩)], .func (Fn.func 50) #[] #[.pointer (some ⟨α 7 + 1 + 1, 0, none⟩)], undef, undef, undef, .pointer (some ⟨B, 0, none⟩), .iface 64 (.pointer (some ⟨ob, 0, none⟩)), .tuple #[.pointer none, .bool false], .bool false, .pointer none, undef, undef, undef, undef, undef, undef, undef, undef, undef, undef, undef, undef, undef, undef, undef, undef, undef, undef, undef, undef, undef, undef, undef, undef, undef, undef, undef, undef, undef, undef, undef, undef, undef, undef, undef, undef, undef, undef, undef, undef, undef, undef, undef, undef, undef, undef, undef, undef, undef, undef, undef, undef, .tuple #[.pointer (some ⟨ob, 0, none⟩), .bool true], .bool true, .pointer (some ⟨ob, 0, none⟩), .pointer (some ⟨ob, 0, none⟩), .pointer (some ⟨ob, 0, none⟩), .pointer (some ⟨ob, 5, none⟩), .int .u8 0, .bool true, .tuple #[.func (Fn.func 59) #[] #[.pointer (some ⟨α 7, 0, none⟩), .pointer (some ⟨α 7 + 1 + 1 + 1, 0, none⟩), .pointer (some ⟨α 7 + 1, 0, none⟩)], .func (Fn.func 50) #[] #[.pointer (some ⟨α 7 + 1 + 1, 0, none⟩)]], .pointer (some ⟨pb, 0, none⟩), .pointer (some ⟨B, 1, none⟩), .agg #[.int .i32 ll], .pointer (some ⟨ob, 0, none⟩), .pointer (some ⟨ob, 0, none⟩), .pointer (some ⟨ob, 0, none⟩), .agg #[.iface 55 (.pointer (some ⟨ib, 0, none⟩)), .int .i32 tl], .tuple #[.func (Fn.func 59) #[] #[.pointer (some ⟨α 7, 0, none⟩), .pointer (some ⟨α 7 + 1 + 1 + 1, 0, none⟩), .pointer (some ⟨α 7 + 1, 0, none⟩)], .func (Fn.func 50) #[] #[.pointer (some ⟨α 7 + 1 + 1, 0, none⟩)]], .func (Fn.func 59) #[] #[.pointer (some ⟨α 7, 0, none⟩), .pointer (some ⟨α 7 + 1 + 1 + 1, 0, none⟩), .pointer (some ⟨α 7 + 1, 0, none⟩)], .func (Fn.func 50) #[] #[.pointer (some ⟨α 7 + 1 + 1, 0, none⟩)], undef, undef, undef, undef, undef, undef, undef, undef, undef, undef, undef, undef, undef, undef, undef, undef, undef, undef, undef, undef, undef, undef, undef, undef, undef, undef, undef, undef, undef, undef, undef, undef, undef, undef, undef, undef, undef, undef, undef, undef, undef, undef, undef, undef, undef, undef, undef, undef, undef, undef, undef, undef, undef, undef, undef, undef, undef, undef, undef, undef], []⟩ := by rw [← hfr]; kernel_rfl
    clear hfr
    subst hdf
    have r0 := r0.kept hG (by simp)
    have r1 := r1.kept hG (by simp)
    have o2 := hG.cell_some o2 (by simp)
    have o3 := hG.cell_some o3 (by simp)
    go_wp2
    generalize α 7 = D at *
    obtain ⟨u1, hu1⟩ : ∃ u1, u1 = u := ⟨_, rfl⟩
    rw [← hu1] at hG r0 r1 o2 o3 f7_1 f7_2 f7_3 f7_4 ⊢
    clear hu1
    obtain ⟨M, hMe⟩ : ∃ M, M = u1.heap.size := ⟨_, rfl⟩
    have hNW1 := hNW
    have hNW : M ≤ u1.heap.size := Nat.le_of_eq hMe
    have hBM : B + 2 ≤ M := by have := hG.size; omega
    have hDM : D + 4 ≤ M := by have := f7_4.lt; omega
    have HMe := Lib.hid hMe
    have HG1 := Lib.hid hG
    have d0 := f7_1
    have d1 := f7_2
    have d3 := f7_4
    have dN := f7_0
    clear hMe hG f7_1 f7_2 f7_3 f7_4 f7_0
    refine Rega.wp_region_atoms (e := rX2E B M D pb ob nb bl bo be ll il) (F := rX2F B M D pb ob nb bl bo be ll il) (anc := rX2Anc) (G := rX2G B M D pb ob nb bl bo be ll il u1) (Step := rX2Step B M D pb ob nb bl bo be ll il) (by kernel_rfl) (by kernel_rfl) (by kernel_rfl) (by kernel_rfl) (rX2_he B M D pb ob nb bl bo be ll il) (rX2_hF B M D pb ob nb bl bo be ll il) (rX2_hFs B M D pb ob nb bl bo be ll il hBM) (rX2_hGs B M D pb ob nb bl bo be ll il hBM u1) ((Base.KeptBut.refl _ _).drew) (Rega.RunsAll.all ?_) ?_
    · refine ⟨?_, ?_, ?_, ?_, ?_, ?_, ?_, ?_, ?_, ?_, ?_, ?_, ?_, trivial⟩
      · intro L α a u K hL hcl hG hA hS h0 hK
        have q0 : a.tmps[0]? = some (.pointer (some ⟨pb, 0, none⟩)) := (h0 0 (by kernel_rfl)).trans rfl
        have s0 := Rega.eval_of q0
        go_simp
        exact hK _ α _ (fun _ _ => rfl) rfl trivial ⟨by decide, .refl _ _⟩
      · intro L α a u K hL hcl hG hA hS h0 hK
        have q4 : a.tmps[4]? = some (.pointer (some ⟨B, 0, none⟩)) := (h0 4 (by kernel_rfl)).trans rfl
        have s4 := Rega.eval_of q4
        go_simp
        exact hK _ α _ (fun _ _ => rfl) rfl trivial ⟨by decide, .refl _ _⟩
      · intro L α a u K hL hcl hG hA hS h0 hK
        have q94 : a.tmps[94]? = some (.pointer (some ⟨B, 1, none⟩)) := hS 1 94 (by decide) rfl (by show 94 < 152; decide)
        have s94 := Rega.eval_of q94
        have c0 : u.cell? ⟨B, 1, none⟩ = some (.int .i32 ll) := hG.cell_some (r0.cell rfl) (by simp <;> omega)
        go_simp
        exact hK _ α _ (fun _ _ => rfl) rfl trivial ⟨by decide, .refl _ _⟩
      · intro L α a u K hL hcl hG hA hS h0 hK
        have q10 : a.tmps[10]? = some (.pointer (some ⟨ob, 0, none⟩)) := (h0 10 (by kernel_rfl)).trans rfl
        have s10 := Rega.eval_of q10
        go_simp
        exact hK _ α _ (fun _ _ => rfl) rfl trivial ⟨by decide, .refl _ _⟩
      · intro L α a u K hL hcl hG hA hS h0 hK
        have q96 : a.tmps[96]? = some (.pointer (some ⟨ob, 0, none⟩)) := hS 3 96 (by decide) rfl (by show 96 < 152; decide)
        have s96 := Rega.eval_of q96
        go_simp
        exact hK _ α _ (fun _ _ => rfl) rfl trivial ⟨by decide, .refl _ _⟩
      · intro L α a u K hL hcl hG hA hS h0 hK
        have q97 : a.tmps[97]? = some (.pointer (some ⟨ob, 0, none⟩)) := hS 4 97 (by decide) rfl (by show 97 < 152; decide)
        have s97 := Rega.eval_of q97
        go_simp
        exact hK _ α _ (fun _ _ => rfl) rfl trivial ⟨by decide, .refl _ _⟩
      · intro L α a u K hL hcl hG hA hS h0 hK
        have q98 : a.tmps[98]? = some (.pointer (some ⟨ob, 2, none⟩)) := hS 5 98 (by decide) rfl (by show 98 < 152; decide)
        have s98 := Rega.eval_of q98
        have c0 : u.cell? ⟨ob, 2, none⟩ = some (.iface 36 (.pointer (some ⟨nb, 0, none⟩))) := hG.cell_some o2 (by simp <;> omega)
        have c1 : u.cell? ⟨ob, 3, none⟩ = some (.int .i32 il) := hG.cell_some o3 (by simp <;> omega)
        go_simp
        exact hK _ α _ (fun _ _ => rfl) rfl trivial ⟨by decide, .refl _ _⟩
      · intro L α a u K hL hcl hG hA hS h0 hK
        have q93 : a.tmps[93]? = some (.pointer (some ⟨pb, 0, none⟩)) := hS 0 93 (by decide) rfl (by show 93 < 152; decide)
        have s93 := Rega.eval_of q93
        have q95 : a.tmps[95]? = some (.agg #[.int .i32 ll]) := hS 2 95 (by decide) rfl (by show 95 < 152; decide)
        have s95 := Rega.eval_of q95
        have q99 : a.tmps[99]? = some (.agg #[.iface 36 (.pointer (some ⟨nb, 0, none⟩)), .int .i32 il]) := hS 6 99 (by decide) rfl (by show 99 < 152; decide)
        have s99 := Rega.eval_of q99
        go_simp
        refine Calls.mono (capNum pb nb ll il _) ?_
        rintro e u1 ⟨b, rfl, hlo, hb, g0, g1, g2, g3⟩
        exact hK _ (fun j => if j = 7 then b else α j) _ (fun j hj => if_neg (by omega)) rfl ⟨Nat.le_trans (Nat.le_trans hNW hG.size) hlo, g0, g1, g2, g3⟩ ⟨by decide, Base.KeptBut.of_below hb⟩
      · intro L α a u K hL hcl hG hA hS h0 hK
        have q100 : a.tmps[100]? = some (.tuple #[.func (Fn.func 55) #[] #[.pointer (some ⟨α 7 + 1, 0, none⟩), .pointer (some ⟨α 7 + 1 + 1 + 1, 0, none⟩)], .func (Fn.func 50) #[] #[.pointer (some ⟨α 7 + 1 + 1, 0, none⟩)]]) := hS 7 100 (by decide) rfl (by show 100 < 152; decide)
        have s100 := Rega.eval_of q100
        go_simp
        exact hK _ α _ (fun _ _ => rfl) rfl trivial ⟨by decide, .refl _ _⟩
      · intro L α a u K hL hcl hG hA hS h0 hK
        have q92 : a.tmps[92]? = some (.tuple #[.func (Fn.func 55) #[] #[.pointer (some ⟨α 7 + 1, 0, none⟩), .pointer (some ⟨α 7 + 1 + 1 + 1, 0, none⟩)], .func (Fn.func 50) #[] #[.pointer (some ⟨α 7 + 1 + 1, 0, none⟩)]]) := hS 8 92 (by decide) rfl (by show 92 < 152; decide)
        have s92 := Rega.eval_of q92
        go_simp
        exact hK _ α _ (fun _ _ => rfl) rfl trivial ⟨by decide, .refl _ _⟩
      · intro L α a u K hL hcl hG hA hS h0 hK
        have q92 : a.tmps[92]? = some (.tuple #[.func (Fn.func 55) #[] #[.pointer (some ⟨α 7 + 1, 0, none⟩), .pointer (some ⟨α 7 + 1 + 1 + 1, 0, none⟩)], .func (Fn.func 50) #[] #[.pointer (some ⟨α 7 + 1 + 1, 0, none⟩)]]) := hS 8 92 (by decide) rfl (by show 92 < 152; decide)
        have s92 := Rega.eval_of q92
        go_simp
        exact hK _ α _ (fun _ _ => rfl) rfl trivial ⟨by decide, .refl _ _⟩
      · intro L α a u K hL hcl hG hA hS h0 hK
        have q101 : a.tmps[101]? = some (.func (Fn.func 55) #[] #[.pointer (some ⟨α 7 + 1, 0, none⟩), .pointer (some ⟨α 7 + 1 + 1 + 1, 0, none⟩)]) := hS 9 101 (by decide) rfl (by show 101 < 152; decide)
        have s101 := Rega.eval_of q101
        go_simp
        exact hK _ α _ (fun _ _ => rfl) rfl trivial ⟨by decide, .refl _ _⟩
      · intro L α a u K hL hcl hG hA hS h0 hK
        have q102 : a.tmps[102]? = some (.func (Fn.func 50) #[] #[.pointer (some ⟨α 7 + 1 + 1, 0, none⟩)]) := hS 10 102 (by decide) rfl (by show 102 < 152; decide)
        have s102 := Rega.eval_of q102
        go_simp
        exact hK _ α _ (fun _ _ => rfl) rfl trivial ⟨by decide, .refl _ _⟩
    · intro α u hG hF
      have f7_0 : M ≤ α 7 := (hF 7 (by decide)).1
      have f7_1 : Base.RowAt u (α 7) 23 #[.pointer (some ⟨pb, 0, none⟩)] := (hF 7 (by decide)).2.1
      have f7_2 : Base.RowAt u (α 7 + 1) 32 #[.int .i32 ll] := (hF 7 (by decide)).2.2.1
      have f7_3 : Base.RowAt u (α 7 + 1 + 1) 34 #[.iface 36 (.pointer (some ⟨nb, 0, none⟩)), .int .i32 il] := (hF 7 (by decide)).2.2.2.1
      have f7_4 : Base.RowAt u (α 7 + 1 + 1 + 1) 36 #[.pointer (some ⟨nb, 0, none⟩)] := (hF 7 (by decide)).2.2.2.2
      clear hF
      generalize hfr : Rega.frameAt _ _ _ _ _ = fr
      have hdf : fr = ⟨#[.pointer (some ⟨pb, 0, none⟩), .agg #[.iface 64 (.pointer (some ⟨ob, 0, none⟩)), .int .i32 ll], .func (Fn.func 45) #[] #[.pointer (some ⟨bl, 0, none⟩), .pointer (some ⟨bo, 0, none⟩), .pointer (some ⟨be, 0, none⟩)], undef, .pointer (some ⟨B, 0, none⟩), undef, .pointer (some ⟨B + 1, 0, none⟩), undef, undef, undef, .pointer (some ⟨ob, 0, none⟩), .func (Fn.func 59) #[] #[.pointer (some ⟨D, 0, none⟩), .pointer (some ⟨D + 1 + 1 + 1, 0, none⟩), .pointer (some ⟨D + 1, 0, none⟩)], .func (Fn.func 50) #[] #[.pointer (some ⟨D + 1 + 1, 0, none⟩)], .func (Fn.func 55) #[] #[.pointer (some ⟨α 7 + 1, 0, none⟩), .pointer (some ⟨α 7 + 1 + 1 + 1, 0, none⟩)], .func (Fn.func 50) #[] #[.pointer (some ⟨α 7 + 1 + 1, 0, none⟩)], undef, .pointer (some ⟨B, 0, none⟩), .iface 64 (.pointer (some ⟨ob, 0, none⟩)), .tuple #[.pointer none, .bool false], .bool false, .pointer none, undef, undef, undef, undef, undef, undef, undef, undef, undef, undef, undef, undef, undef, undef, undef, undef, undef, undef, undef, undef, undef, undef, undef, undef, undef, undef, undef, undef, undef, undef, undef, undef, undef, undef, undef, undef, undef, undef, undef, undef, undef, undef, undef, undef, undef, undef, undef, undef, undef, undef, undef, undef, .tuple #[.pointer (some ⟨ob, 0, none⟩), .bool true], .bool true, .pointer (some ⟨ob, 0, none⟩), .pointer (some ⟨ob, 0, none⟩), .pointer (some ⟨ob, 0, none⟩), .pointer (some ⟨ob, 5, none⟩), .int .u8 0, .bool true, .tuple #[.func (Fn.func 59) #[] #[.pointer (some ⟨D, 0, none⟩), .pointer (some ⟨D + 1 + 1 + 1, 0, none⟩), .pointer (some ⟨D + 1, 0, none⟩)], .func (Fn.func 50) #[] #[.pointer (some ⟨D + 1 + 1, 0, none⟩)]], .pointer (some ⟨pb, 0, none⟩), .pointer (some ⟨B, 1, none⟩), .agg #[.int .i32 ll], .pointer (some ⟨ob, 0, none⟩), .pointer (some ⟨ob, 0, none⟩), .pointer (some ⟨ob, 0, none⟩), .agg #[.iface 55 (.pointer (some ⟨ib, 0, none⟩)), .int .i32 tl], .tuple #[.func (Fn.func 59) #[] #[.pointer (some ⟨D, 0, none⟩), .pointer (some ⟨D + 1 + 1 + 1, 0, none⟩), .pointer (some ⟨D + 1, 0, none⟩)], .func (Fn.func 50) #[] #[.pointer (some ⟨D + 1 + 1, 0, none⟩)]], .func (Fn.func 59) #[] #[.pointer (some ⟨D, 0, none⟩), .pointer (some ⟨D + 1 + 1 + 1, 0, none⟩), .pointer (some ⟨D + 1, 0, none⟩)], .func (Fn.func 50) #[] #[.pointer (some ⟨D + 1 + 1, 0, none⟩)], .tuple #[.func (Fn.func 55) #[] #[.pointer (some ⟨α 7 + 1, 0, none⟩), .pointer (some ⟨α 7 + 1 + 1 + 1, 0, none⟩)], .func (Fn.func 50) #[] #[.pointer (some ⟨α 7 + 1 + 1, 0, none⟩)]], .pointer (some ⟨pb, 0, none⟩), .pointer (some ⟨B, 1, none⟩), .agg #[.int .i32 ll], .pointer (some ⟨ob, 0, none⟩), .pointer (some ⟨ob, 0, none⟩), .pointer (some ⟨ob, 2, none⟩), .agg #[.iface 36 (.pointer (some ⟨nb, 0, none⟩)), .int .i32 il], .tuple #[.func (Fn.func 55) #[] #[.pointer (some ⟨α 7 + 1, 0, none⟩), .pointer (some ⟨α 7 + 1 + 1 + 1, 0, none⟩)], .func (Fn.func 50) #[] #[.pointer (some ⟨α 7 + 1 + 1, 0, none⟩)]], .func (Fn.func 55) #[] #[.pointer (some ⟨α 7 + 1, 0, none⟩), .pointer (some ⟨α 7 + 1 + 1 + 1, 0, none⟩)], .func (Fn.func 50) #[] #[.pointer (some ⟨α 7 + 1 + 1, 0, none⟩)], undef, undef, undef, undef, undef, undef, undef, undef, undef, undef, undef, undef, undef, undef, undef, undef, undef, undef, undef, undef, undef, undef, undef, undef, undef, undef, undef, undef, undef, undef, undef, undef, undef, undef, undef, undef, undef, undef, undef, undef, undef, undef, undef, undef, undef, undef, undef, undef, undef], []⟩ := by rw [← hfr]; kernel_rfl
      clear hfr
      subst hdf
      go_wp2
      generalize α 7 = E at *
      obtain ⟨u2, hu2⟩ : ∃ u2, u2 = u := ⟨_, rfl⟩
      rw [← hu2] at hG f7_1 f7_2 f7_3 f7_4 ⊢
      clear hu2
      have hkw : Base.KeptBut [] w u2 := ((Base.KeptBut.of_below hbW).trans HG1.out).trans hG
      have d0 := d0.kept hG (by simp)
      have d1 := d1.kept hG (by simp)
      have d3 := d3.kept hG (by simp)
      have r0 := r0.kept hG (by simp)
      have r1 := r1.kept hG (by simp)
      have e1 := f7_2
      have e3 := f7_4
      have hsB : sb < B := by have := HB.out; have := HC.out.lt; omega
      have hpB : pb < B := by have := HB.out; have := HP.out.lt; omega
      have hiB : ib < B := by have := HB.out; have := ri.lt; omega
      have hnB : nb < B := by have := HB.out; have := rn.lt; omega
      have hB0 : bl < B := by have := HB.out; have := k0.lt; omega
      have hB1 : bo < B := by have := HB.out; have := k1.lt; omega
      have hB2 : be < B := by have := HB.out; have := k2.lt; omega
      have hB3 : eb < B := by have := HB.out; have h9 : eb < w.heap.size := Base.block_of_cell k3; omega
      have hP := HP.out.kept hkw (by simp)
      have hC := HC.out.kept hkw (by simp)
      have ri := ri.kept hkw (by simp)
      have rn := rn.kept hkw (by simp)
      have k0 := k0.kept hkw (by simp)
      have k1 := k1.kept hkw (by simp)
      have k2 := k2.kept hkw (by simp)
      have k3 := hkw.cell_some k3 (by simp)
      have k4 := hkw.cell_some k4 (by simp)
      have Hc1 := Lib.hid (set_get Hc.out (.int .u32 ((c + 1 : Nat) : Int)))
      obtain ⟨M2, hMe2⟩ : ∃ M2, M2 = u2.heap.size := ⟨_, rfl⟩
      have hNW : M2 ≤ u2.heap.size := Nat.le_of_eq hMe2
      have hBM2 : B + 2 ≤ M2 := by have := hG.size; omega
      have hBD : B + 2 ≤ D := by omega
      have hBE : B + 2 ≤ E := by omega
      have Hkw := Lib.hid hkw
      clear hMe2 hG hkw
      refine Rega.wp_region_atoms (e := rX3E B M2 D E pb sb i c ob ib nb bl bo be eb TR xr v src ll loc op lr C) (F := rX3F B M2 D E pb sb i c ob ib nb bl bo be eb TR xr v src ll loc op lr C) (anc := rX3Anc) (G := rX3G B M2 D E pb sb i c ob ib nb bl bo be eb TR xr v src ll loc op lr C u2) (Step := rX3Step B M2 D E pb sb i c ob ib nb bl bo be eb TR xr v src ll loc op lr C) (by kernel_rfl) (by kernel_rfl) (by kernel_rfl) (by kernel_rfl) (rX3_he B M2 D E pb sb i c ob ib nb bl bo be eb TR xr v src ll loc op lr C) (rX3_hF B M2 D E pb sb i c ob ib nb bl bo be eb TR xr v src ll loc op lr C) (rX3_hFs B M2 D E pb sb i c ob ib nb bl bo be eb TR xr v src ll loc op lr C hBM2 hsB) (rX3_hGs B M2 D E pb sb i c ob ib nb bl bo be eb TR xr v src ll loc op lr C hBM2 hsB u2) ⟨(Base.KeptBut.refl _ _).drew, fun _ => hC.drew, fun _ => r1.drew⟩ (Rega.RunsAll.all ?_) ?_
      · refine ⟨?_, ?_, ?_, ?_, ?_, ?_, ?_, ?_, ?_, ?_, ?_, ?_, ?_, ?_, ?_, ?_, ?_, ?_, ?_, ?_, ?_, ?_, ?_, ?_, ?_, ?_, ?_, trivial⟩
        · intro L α a u K hL hcl hG hA hS h0 hK
          have q12 : a.tmps[12]? = some (.func (Fn.func 50) #[] #[.pointer (some ⟨D + 1 + 1, 0, none⟩)]) := (h0 12 (by kernel_rfl)).trans rfl
          have s12 := Rega.eval_of q12
          go_simp
          exact hK _ α _ (fun _ _ => rfl) rfl trivial ⟨by decide, .refl _ _⟩
        · intro L α a u K hL hcl hG hA hS h0 hK
          have q14 : a.tmps[14]? = some (.func (Fn.func 50) #[] #[.pointer (some ⟨E + 1 + 1, 0, none⟩)]) := (h0 14 (by kernel_rfl)).trans rfl
          have s14 := Rega.eval_of q14
          go_simp
          exact hK _ α _ (fun _ _ => rfl) rfl trivial ⟨by decide, .refl _ _⟩
        · intro L α a u K hL hcl hG hA hS h0 hK
          have q2 : a.tmps[2]? = some (.func (Fn.func 45) #[] #[.pointer (some ⟨bl, 0, none⟩), .pointer (some ⟨bo, 0, none⟩), .pointer (some ⟨be, 0, none⟩)]) := (h0 2 (by kernel_rfl)).trans rfl
          have s2 := Rega.eval_of q2
          go_simp
          exact hK _ α _ (fun _ _ => rfl) rfl trivial ⟨by decide, .refl _ _⟩
        · intro L α a u K hL hcl hG hA hS h0 hK
          have q4 : a.tmps[4]? = some (.pointer (some ⟨B, 0, none⟩)) := (h0 4 (by kernel_rfl)).trans rfl
          have s4 := Rega.eval_of q4
          go_simp
          exact hK _ α _ (fun _ _ => rfl) rfl trivial ⟨by decide, .refl _ _⟩
        · intro L α a u K hL hcl hG hA hS h0 hK
          have q106 : a.tmps[106]? = some (.pointer (some ⟨B, 1, none⟩)) := hS 3 106 (by decide) rfl (by show 106 < 152; decide)
          have s106 := Rega.eval_of q106
          have c0 : u.cell? ⟨B, 1, none⟩ = some (.int .i32 ll) := hG.1.cell_some (r0.cell rfl) (by simp <;> omega)
          go_simp
          exact hK _ α _ (fun _ _ => rfl) rfl trivial ⟨by decide, .refl _ _⟩
        · intro L α a u K hL hcl hG hA hS h0 hK
          have q11 : a.tmps[11]? = some (.func (Fn.func 59) #[] #[.pointer (some ⟨D, 0, none⟩), .pointer (some ⟨D + 1 + 1 + 1, 0, none⟩), .pointer (some ⟨D + 1, 0, none⟩)]) := (h0 11 (by kernel_rfl)).trans rfl
          have s11 := Rega.eval_of q11
          go_simp
          exact hK _ α _ (fun _ _ => rfl) rfl trivial ⟨by decide, .refl _ _⟩
        · intro L α a u K hL hcl hG hA hS h0 hK
          have q108 : a.tmps[108]? = some (.func (Fn.func 59) #[] #[.pointer (some ⟨D, 0, none⟩), .pointer (some ⟨D + 1 + 1 + 1, 0, none⟩), .pointer (some ⟨D + 1, 0, none⟩)]) := hS 5 108 (by decide) rfl (by show 108 < 152; decide)
          have s108 := Rega.eval_of q108
          go_simp
          have hrs := (hG.2.1 hL)
          refine Calls.mono (identFn D (D + 1 + 1 + 1) (D + 1) ib pb sb n cap i (c) src ll C _ (hP.kept hG.1 (by simp <;> omega)) hi hn hne hrs Hc.out (by omega) (hG.1.cell_some (d0.cell rfl) (by simp <;> omega)) (hG.1.cell_some (d3.cell rfl) (by simp <;> omega)) (hG.1.cell_some (d1.cell rfl) (by simp <;> omega)) (hG.1.cell_some (ri.cell rfl) (by simp <;> omega)) (hG.1.cell_some (ri.cell rfl) (by simp <;> omega)) (by omega) (by omega) (by omega) hib) ?_
          rintro e u1 ⟨b, rfl, hlo, ⟨hk1, hk2⟩, hr⟩
          exact hK _ (fun j => if j = 6 then b else α j) _ (fun j hj => if_neg (by omega)) rfl ⟨Nat.le_trans (Nat.le_trans hNW hG.1.size) hlo, hr, fun _ => hk2⟩ ⟨by decide, hk1⟩
        · intro L α a u K hL hcl hG hA hS h0 hK
          have q13 : a.tmps[13]? = some (.func (Fn.func 55) #[] #[.pointer (some ⟨E + 1, 0, none⟩), .pointer (some ⟨E + 1 + 1 + 1, 0, none⟩)]) := (h0 13 (by kernel_rfl)).trans rfl
          have s13 := Rega.eval_of q13
          go_simp
          exact hK _ α _ (fun _ _ => rfl) rfl trivial ⟨by decide, .refl _ _⟩
        · intro L α a u K hL hcl hG hA hS h0 hK
          have q110 : a.tmps[110]? = some (.func (Fn.func 55) #[] #[.pointer (some ⟨E + 1, 0, none⟩), .pointer (some ⟨E + 1 + 1 + 1, 0, none⟩)]) := hS 7 110 (by decide) rfl (by show 110 < 152; decide)
          have s110 := Rega.eval_of q110
          go_simp
          have l6 : α 6 < u.heap.size := (hA 6 (by decide)).2.2.1.lt
          refine Calls.mono (l131.cNum (E + 1) (E + 1 + 1 + 1) nb ll v _ (hG.1.cell_some (e1.cell rfl) (by simp <;> omega)) (hG.1.cell_some (e3.cell rfl) (by simp <;> omega)) (hG.1.cell_some (rn.cell rfl) (by simp <;> omega))) ?_
          rintro e u1 ⟨b, rfl, hb, hlo, hr⟩
          exact hK _ (fun j => if j = 8 then b else α j) _ (fun j hj => if_neg (by omega)) rfl ⟨Nat.le_trans (Nat.le_trans hNW hG.1.size) hlo, hr, Nat.lt_of_lt_of_le l6 hlo⟩ ⟨by decide, Base.KeptBut.of_below hb⟩
        · intro L α a u K hL hcl hG hA hS h0 hK
          have q109 : a.tmps[109]? = some (.agg #[.iface 55 (.pointer (some ⟨α 6, 0, none⟩)), .int .i32 ll]) := hS 6 109 (by decide) rfl (by show 109 < 152; decide)
          have s109 := Rega.eval_of q109
          have q111 : a.tmps[111]? = some (.agg #[.iface 36 (.pointer (some ⟨α 8, 0, none⟩)), .int .i32 ll]) := hS 8 111 (by decide) rfl (by show 111 < 152; decide)
          have s111 := Rega.eval_of q111
          go_simp
          exact hK _ α _ (fun _ _ => rfl) rfl trivial ⟨by decide, .refl _ _⟩
        · intro L α a u K hL hcl hG hA hS h0 hK
          have q112 : a.tmps[112]? = some (.agg #[.iface 55 (.pointer (some ⟨α 6, 0, none⟩)), .int .i32 ll, .iface 36 (.pointer (some ⟨α 8, 0, none⟩)), .int .i32 ll, .int .i32 0, .int .u8 0, .bool false, .bool false, .bool false]) := hS 9 112 (by decide) rfl (by show 112 < 152; decide)
          have s112 := Rega.eval_of q112
          have l6 : α 6 < u.heap.size := (hA 6 (by decide)).2.2.1.lt
          have l8 : α 8 < u.heap.size := (hA 8 (by decide)).2.2.1.lt
          go_simp
          exact hK _ (fun j => if j = 10 then u.heap.size else α j) _ (fun j hj => if_neg (by omega)) rfl ⟨Nat.le_trans hNW hG.1.size, Base.RowAt.new u _ _, l6, l8⟩ ⟨by decide, (Base.KeptBut.refl _ _).alloc _⟩
        · intro L α a u K hL hcl hG hA hS h0 hK
          have q113 : a.tmps[113]? = some (.pointer (some ⟨α 10, 0, none⟩)) := hS 10 113 (by decide) rfl (by show 113 < 152; decide)
          have s113 := Rega.eval_of q113
          go_simp
          exact hK _ α _ (fun _ _ => rfl) rfl trivial ⟨by decide, .refl _ _⟩
        · intro L α a u K hL hcl hG hA hS h0 hK
          have q107 : a.tmps[107]? = some (.agg #[.int .i32 ll]) := hS 4 107 (by decide) rfl (by show 107 < 152; decide)
          have s107 := Rega.eval_of q107
          have q114 : a.tmps[114]? = some (.iface 64 (.pointer (some ⟨α 10, 0, none⟩))) := hS 11 114 (by decide) rfl (by show 114 < 152; decide)
          have s114 := Rega.eval_of q114
          go_simp
          exact hK _ α _ (fun _ _ => rfl) rfl trivial ⟨by decide, .refl _ _⟩
        · intro L α a u K hL hcl hG hA hS h0 hK
          have q4 : a.tmps[4]? = some (.pointer (some ⟨B, 0, none⟩)) := (h0 4 (by kernel_rfl)).trans rfl
          have s4 := Rega.eval_of q4
          go_simp
          exact hK _ α _ (fun _ _ => rfl) rfl trivial ⟨by decide, .refl _ _⟩
        · intro L α a u K hL hcl hG hA hS h0 hK
          have q116 : a.tmps[116]? = some (.pointer (some ⟨B, 1, none⟩)) := hS 13 116 (by decide) rfl (by show 116 < 152; decide)
          have s116 := Rega.eval_of q116
          have c0 : u.cell? ⟨B, 1, none⟩ = some (.int .i32 ll) := hG.1.cell_some (r0.cell rfl) (by simp <;> omega)
          go_simp
          exact hK _ α _ (fun _ _ => rfl) rfl trivial ⟨by decide, .refl _ _⟩
        · intro L α a u K hL hcl hG hA hS h0 hK
          have q11 : a.tmps[11]? = some (.func (Fn.func 59) #[] #[.pointer (some ⟨D, 0, none⟩), .pointer (some ⟨D + 1 + 1 + 1, 0, none⟩), .pointer (some ⟨D + 1, 0, none⟩)]) := (h0 11 (by kernel_rfl)).trans rfl
          have s11 := Rega.eval_of q11
          go_simp
          exact hK _ α _ (fun _ _ => rfl) rfl trivial ⟨by decide, .refl _ _⟩
        · intro L α a u K hL hcl hG hA hS h0 hK
          have q118 : a.tmps[118]? = some (.func (Fn.func 59) #[] #[.pointer (some ⟨D, 0, none⟩), .pointer (some ⟨D + 1 + 1 + 1, 0, none⟩), .pointer (some ⟨D + 1, 0, none⟩)]) := hS 15 118 (by decide) rfl (by show 118 < 152; decide)
          have s118 := Rega.eval_of q118
          go_simp
          have hrs := ((hA 6 (by decide)).2.2.2 hL)
          have l6 : α 6 < u.heap.size := (hA 6 (by decide)).2.2.1.lt
          have l8 : α 8 < u.heap.size := (hA 8 (by decide)).2.2.1.lt
          refine Calls.mono (identFn D (D + 1 + 1 + 1) (D + 1) ib pb sb n cap i (c + 1) src ll (C.setIfInBounds (i * 10 + 4) (.int .u32 ((c + 1 : Nat) : Int))) _ (hP.kept hG.1 (by simp <;> omega)) hi hn hne hrs Hc1.out (by omega) (hG.1.cell_some (d0.cell rfl) (by simp <;> omega)) (hG.1.cell_some (d3.cell rfl) (by simp <;> omega)) (hG.1.cell_some (d1.cell rfl) (by simp <;> omega)) (hG.1.cell_some (ri.cell rfl) (by simp <;> omega)) (hG.1.cell_some (ri.cell rfl) (by simp <;> omega)) (by omega) (by omega) (by omega) hib) ?_
          rintro e u1 ⟨b, rfl, hlo, ⟨hk1, hk2⟩, hr⟩
          exact hK _ (fun j => if j = 16 then b else α j) _ (fun j hj => if_neg (by omega)) rfl ⟨Nat.le_trans (Nat.le_trans hNW hG.1.size) hlo, hr, Nat.lt_of_lt_of_le l6 hlo, Nat.lt_of_lt_of_le l8 hlo, hk2⟩ ⟨by decide, hk1⟩
        · intro L α a u K hL hcl hG hA hS h0 hK
          have q13 : a.tmps[13]? = some (.func (Fn.func 55) #[] #[.pointer (some ⟨E + 1, 0, none⟩), .pointer (some ⟨E + 1 + 1 + 1, 0, none⟩)]) := (h0 13 (by kernel_rfl)).trans rfl
          have s13 := Rega.eval_of q13
          go_simp
          exact hK _ α _ (fun _ _ => rfl) rfl trivial ⟨by decide, .refl _ _⟩
        · intro L α a u K hL hcl hG hA hS h0 hK
          have q120 : a.tmps[120]? = some (.func (Fn.func 55) #[] #[.pointer (some ⟨E + 1, 0, none⟩), .pointer (some ⟨E + 1 + 1 + 1, 0, none⟩)]) := hS 17 120 (by decide) rfl (by show 120 < 152; decide)
          have s120 := Rega.eval_of q120
          go_simp
          have l6 : α 6 < u.heap.size := (hA 6 (by decide)).2.2.1.lt
          have l8 : α 8 < u.heap.size := (hA 8 (by decide)).2.2.1.lt
          have l16 : α 16 < u.heap.size := (hA 16 (by decide)).2.2.1.lt
          refine Calls.mono (l131.cNum (E + 1) (E + 1 + 1 + 1) nb ll v _ (hG.1.cell_some (e1.cell rfl) (by simp <;> omega)) (hG.1.cell_some (e3.cell rfl) (by simp <;> omega)) (hG.1.cell_some (rn.cell rfl) (by simp <;> omega))) ?_
          rintro e u1 ⟨b, rfl, hb, hlo, hr⟩
          exact hK _ (fun j => if j = 18 then b else α j) _ (fun j hj => if_neg (by omega)) rfl ⟨Nat.le_trans (Nat.le_trans hNW hG.1.size) hlo, hr, Nat.lt_of_lt_of_le l6 hlo, Nat.lt_of_lt_of_le l8 hlo, Nat.lt_of_lt_of_le l16 hlo⟩ ⟨by decide, Base.KeptBut.of_below hb⟩
        · intro L α a u K hL hcl hG hA hS h0 hK
          have q119 : a.tmps[119]? = some (.agg #[.iface 55 (.pointer (some ⟨α 16, 0, none⟩)), .int .i32 ll]) := hS 16 119 (by decide) rfl (by show 119 < 152; decide)
          have s119 := Rega.eval_of q119
          have q121 : a.tmps[121]? = some (.agg #[.iface 36 (.pointer (some ⟨α 18, 0, none⟩)), .int .i32 ll]) := hS 18 121 (by decide) rfl (by show 121 < 152; decide)
          have s121 := Rega.eval_of q121
          go_simp
          exact hK _ α _ (fun _ _ => rfl) rfl trivial ⟨by decide, .refl _ _⟩
        · intro L α a u K hL hcl hG hA hS h0 hK
          have q122 : a.tmps[122]? = some (.agg #[.iface 55 (.pointer (some ⟨α 16, 0, none⟩)), .int .i32 ll, .iface 36 (.pointer (some ⟨α 18, 0, none⟩)), .int .i32 ll, .int .i32 0, .int .u8 0, .bool false, .bool false, .bool false]) := hS 19 122 (by decide) rfl (by show 122 < 152; decide)
          have s122 := Rega.eval_of q122
          have l6 : α 6 < u.heap.size := (hA 6 (by decide)).2.2.1.lt
          have l8 : α 8 < u.heap.size := (hA 8 (by decide)).2.2.1.lt
          have l16 : α 16 < u.heap.size := (hA 16 (by decide)).2.2.1.lt
          have l18 : α 18 < u.heap.size := (hA 18 (by decide)).2.2.1.lt
          go_simp
          exact hK _ (fun j => if j = 20 then u.heap.size else α j) _ (fun j hj => if_neg (by omega)) rfl ⟨Nat.le_trans hNW hG.1.size, Base.RowAt.new u _ _, l6, l8, l16, l18⟩ ⟨by decide, (Base.KeptBut.refl _ _).alloc _⟩
        · intro L α a u K hL hcl hG hA hS h0 hK
          have q123 : a.tmps[123]? = some (.pointer (some ⟨α 20, 0, none⟩)) := hS 20 123 (by decide) rfl (by show 123 < 152; decide)
          have s123 := Rega.eval_of q123
          go_simp
          exact hK _ α _ (fun _ _ => rfl) rfl trivial ⟨by decide, .refl _ _⟩
        · intro L α a u K hL hcl hG hA hS h0 hK
          have q117 : a.tmps[117]? = some (.agg #[.int .i32 ll]) := hS 14 117 (by decide) rfl (by show 117 < 152; decide)
          have s117 := Rega.eval_of q117
          have q124 : a.tmps[124]? = some (.iface 64 (.pointer (some ⟨α 20, 0, none⟩))) := hS 21 124 (by decide) rfl (by show 124 < 152; decide)
          have s124 := Rega.eval_of q124
          go_simp
          exact hK _ α _ (fun _ _ => rfl) rfl trivial ⟨by decide, .refl _ _⟩
        · intro L α a u K hL hcl hG hA hS h0 hK
          have q105 : a.tmps[105]? = some (.func (Fn.func 45) #[] #[.pointer (some ⟨bl, 0, none⟩), .pointer (some ⟨bo, 0, none⟩), .pointer (some ⟨be, 0, none⟩)]) := hS 2 105 (by decide) rfl (by show 105 < 152; decide)
          have s105 := Rega.eval_of q105
          have q115 : a.tmps[115]? = some (.agg #[.iface 64 (.pointer (some ⟨α 10, 0, none⟩)), .int .i32 ll]) := hS 12 115 (by decide) rfl (by show 115 < 152; decide)
          have s115 := Rega.eval_of q115
          have q125 : a.tmps[125]? = some (.agg #[.iface 64 (.pointer (some ⟨α 20, 0, none⟩)), .int .i32 ll]) := hS 22 125 (by decide) rfl (by show 125 < 152; decide)
          have s125 := Rega.eval_of q125
          go_simp
          have l10 : α 10 < u.heap.size := (hA 10 (by decide)).2.2.1.lt
          have l20 : α 20 < u.heap.size := (hA 20 (by decide)).2.2.1.lt
          refine Calls.mono (logicalFn bl bo be eb 64 (α 10) 64 (α 20) TR xr loc op ll ll lr _ (hG.1.cell_some (k0.cell rfl) (by simp <;> omega)) (hG.1.cell_some (k1.cell rfl) (by simp <;> omega)) (hG.1.cell_some (k2.cell rfl) (by simp <;> omega)) (hG.1.cell_some k3 (by simp <;> omega)) (hG.1.cell_some k4 (by simp <;> omega))) ?_
          rintro e u1 ⟨b, a1, rfl, hlo, hab, hb, hr1, hr2⟩
          exact hK _ (fun j => if j = 23 then b else if j = 1000 + 23 then a1 else α j) _ (fun j hj => by rw [if_neg (by omega), if_neg (by omega)]) rfl ⟨Nat.le_trans (Nat.le_trans hNW hG.1.size) hlo, hab, Nat.lt_of_lt_of_le l10 hlo, Nat.lt_of_lt_of_le l20 hlo, hr1, hr2⟩ ⟨by decide, Base.KeptBut.of_below hb⟩
        · intro L α a u K hL hcl hG hA hS h0 hK
          have q104 : a.tmps[104]? = some (.func (Fn.func 50) #[] #[.pointer (some ⟨E + 1 + 1, 0, none⟩)]) := hS 1 104 (by decide) rfl (by show 104 < 152; decide)
          have s104 := Rega.eval_of q104
          have q126 : a.tmps[126]? = some (.agg #[.iface 41 (.pointer (some ⟨α 23, 0, none⟩)), .int .i32 loc]) := hS 23 126 (by decide) rfl (by show 126 < 152; decide)
          have s126 := Rega.eval_of q126
          go_simp
          refine Calls.mono (l131.cWrap _ _ _ _ _) ?_
          rintro e u1 ⟨rfl, hb⟩
          exact hK _ α _ (fun _ _ => rfl) rfl trivial ⟨by decide, Base.KeptBut.of_below hb⟩
        · intro L α a u K hL hcl hG hA hS h0 hK
          have q103 : a.tmps[103]? = some (.func (Fn.func 50) #[] #[.pointer (some ⟨D + 1 + 1, 0, none⟩)]) := hS 0 103 (by decide) rfl (by show 103 < 152; decide)
          have s103 := Rega.eval_of q103
          have q127 : a.tmps[127]? = some (.agg #[.iface 41 (.pointer (some ⟨α 23, 0, none⟩)), .int .i32 loc]) := hS 24 127 (by decide) rfl (by show 127 < 152; decide)
          have s127 := Rega.eval_of q127
          go_simp
          refine Calls.mono (l131.cWrap _ _ _ _ _) ?_
          rintro e u1 ⟨rfl, hb⟩
          exact hK _ α _ (fun _ _ => rfl) rfl trivial ⟨by decide, Base.KeptBut.of_below hb⟩
        · intro L α a u K hL hcl hG hA hS h0 hK
          have q6 : a.tmps[6]? = some (.pointer (some ⟨B + 1, 0, none⟩)) := (h0 6 (by kernel_rfl)).trans rfl
          have s6 := Rega.eval_of q6
          have q128 : a.tmps[128]? = some (.agg #[.iface 41 (.pointer (some ⟨α 23, 0, none⟩)), .int .i32 loc]) := hS 25 128 (by decide) rfl (by show 128 < 152; decide)
          have s128 := Rega.eval_of q128
          have hr := (hG.2.2 hL)
          have x0 : u.cell? ⟨B + 1, 0, none⟩ = some (.nilIface) := hr.cell rfl
          have y0 : u.frozen? ⟨B + 1, 0, none⟩ = false := hr.free 0
          have x1 : u.cell? ⟨B + 1, 1, none⟩ = some (.int .i32 0) := hr.cell rfl
          have y1 : u.frozen? ⟨B + 1, 1, none⟩ = false := hr.free 1
          have HR := Lib.hid hr
          clear hr
          go_simp
          exact hK _ α _ (fun _ _ => rfl) rfl ((HR.out.set 0 _).set 1 _) ⟨by decide, ((Base.KeptBut.refl _ _).setCell (Or.inl (by simp [rX3Mods])) _).setCell (Or.inl (by simp [rX3Mods])) _⟩
      · intro α u hG hF
        have f6_0 : M2 ≤ α 6 := (hF 6 (by decide)).1
        have f6_1 : Base.RowAt u (α 6) 214 #[.int .u32 src, .int .u32 (i : Int), .bool false, .bool false, .bool false] := (hF 6 (by decide)).2.1
        have f8_0 : M2 ≤ α 8 := (hF 8 (by decide)).1
        have f8_1 : Base.RowAt u (α 8) 50 #[.float .f64 v] := (hF 8 (by decide)).2.1
        have f8_2 : α 6 < α 8 := (hF 8 (by decide)).2.2
        have f10_0 : M2 ≤ α 10 := (hF 10 (by decide)).1
        have f10_1 : Base.RowAt u (α 10) 69 #[.iface 55 (.pointer (some ⟨α 6, 0, none⟩)), .int .i32 ll, .iface 36 (.pointer (some ⟨α 8, 0, none⟩)), .int .i32 ll, .int .i32 0, .int .u8 0, .bool false, .bool false, .bool false] := (hF 10 (by decide)).2.1
        have f10_2 : α 6 < α 10 := (hF 10 (by decide)).2.2.1
        have f10_3 : α 8 < α 10 := (hF 10 (by decide)).2.2.2
        have f16_0 : M2 ≤ α 16 := (hF 16 (by decide)).1
        have f16_1 : Base.RowAt u (α 16) 214 #[.int .u32 src, .int .u32 (i : Int), .bool false, .bool false, .bool false] := (hF 16 (by decide)).2.1
        have f16_2 : α 6 < α 16 := (hF 16 (by decide)).2.2.1
        have f16_3 : α 8 < α 16 := (hF 16 (by decide)).2.2.2.1
        have f16_4 : Base.RowAt u sb 223 ((C.setIfInBounds (i * 10 + 4) (.int .u32 ((c + 1 : Nat) : Int))).setIfInBounds (i * 10 + 4) (.int .u32 ((c + 1 + 1 : Nat) : Int))) := (hF 16 (by decide)).2.2.2.2
        have f18_0 : M2 ≤ α 18 := (hF 18 (by decide)).1
        have f18_1 : Base.RowAt u (α 18) 50 #[.float .f64 v] := (hF 18 (by decide)).2.1
        have f18_2 : α 6 < α 18 := (hF 18 (by decide)).2.2.1
        have f18_3 : α 8 < α 18 := (hF 18 (by decide)).2.2.2.1
        have f18_4 : α 16 < α 18 := (hF 18 (by decide)).2.2.2.2
        have f20_0 : M2 ≤ α 20 := (hF 20 (by decide)).1
        have f20_1 : Base.RowAt u (α 20) 69 #[.iface 55 (.pointer (some ⟨α 16, 0, none⟩)), .int .i32 ll, .iface 36 (.pointer (some ⟨α 18, 0, none⟩)), .int .i32 ll, .int .i32 0, .int .u8 0, .bool false, .bool false, .bool false] := (hF 20 (by decide)).2.1
        have f20_2 : α 6 < α 20 := (hF 20 (by decide)).2.2.1
        have f20_3 : α 8 < α 20 := (hF 20 (by decide)).2.2.2.1
        have f20_4 : α 16 < α 20 := (hF 20 (by decide)).2.2.2.2.1
        have f20_5 : α 18 < α 20 := (hF 20 (by decide)).2.2.2.2.2
        have f23_0 : M2 ≤ α 1023 := (hF 23 (by decide)).1
        have f23_1 : α 1023 < α 23 := (hF 23 (by decide)).2.1
        have f23_2 : α 10 < α 1023 := (hF 23 (by decide)).2.2.1
        have f23_3 : α 20 < α 1023 := (hF 23 (by decide)).2.2.2.1
        have f23_4 : Base.RowAt u (α 23) 47 #[.iface 64 (.pointer (some ⟨α 10, 0, none⟩)), .int .i32 ll, .iface 41 (.pointer (some ⟨α 1023, 0, none⟩)), .int .i32 ll, .int .u8 op, .bool false] := (hF 23 (by decide)).2.2.2.2.1
        have f23_5 : Base.RowAt u (α 1023) 47 #[.iface 64 (.pointer (some ⟨α 20, 0, none⟩)), .int .i32 ll, .iface TR (.pointer (some ⟨xr, 0, none⟩)), .int .i32 lr, .int .u8 37, .bool false] := (hF 23 (by decide)).2.2.2.2.2
        have f26_0 : Base.RowAt u (B + 1) 34 #[.iface 41 (.pointer (some ⟨α 23, 0, none⟩)), .int .i32 loc] := (hF 26 (by decide))
        clear hF
        generalize hfr : Rega.frameAt _ _ _ _ _ = fr
        have q6 : fr.tmps[6]? = some (.pointer (some ⟨B + 1, 0, none⟩)) := by rw [← hfr]; kernel_rfl
        have hdf : fr.defers = [] := by rw [← hfr]; kernel_rfl
        clear hfr
        have z0 : u.cell? ⟨B + 1, 0, none⟩ = some (.iface 41 (.pointer (some ⟨α 23, 0, none⟩))) := f26_0.cell rfl
        have z1 : u.cell? ⟨B + 1, 1, none⟩ = some (.int .i32 loc) := f26_0.cell rfl
        have HG := Lib.hid hG
        clear hG hC hP ri rn r0 r1 k0 k1 k2 d0 d1 d3 e1 e3
        go_wp2
        have hB := HB.out
        have hkb := HG.out.1
        have hk0 := Hkw.out
        have hk : Base.KeptBut [sb] w u := by
          refine ⟨hkb.os.trans hk0.os, hkb.tape.trans hk0.tape, hkb.output.trans hk0.output, Nat.le_trans hk0.size hkb.size, fun k hk hn => ?_⟩
          exact (hkb.block k (by have := hk0.size; omega) (by simp at hn ⊢; omega)).trans (hk0.block k hk (by simp))
        have hs0 := hk0.size
        have hap : α 10 ≠ α 20 := fun h => Base.row_ne_cells f10_1 f20_1 (by simp <;> omega) h
        refine bodyPost_ret (v := .agg #[.iface 41 (.pointer (some ⟨α 23, 0, none⟩)), .int .i32 loc]) ?_ hdf ?_
        · simp [results, Tryd.results44, go_sem, q6, z0, z1]
        · exact ⟨α 23, α 1023, α 10, α 20, α 6, α 16, α 8, α 18, rfl, ⟨hk, f16_4⟩, by omega, f8_2, f16_2, f18_3, f10_2, f20_2, hap, f23_2, f23_3, f23_1, f23_4, f23_5, f10_1, f20_1, f6_1, f16_1, f8_1, f18_1⟩
end Go.Proofs.YtlgefnjkoklboaaDoor.Use
