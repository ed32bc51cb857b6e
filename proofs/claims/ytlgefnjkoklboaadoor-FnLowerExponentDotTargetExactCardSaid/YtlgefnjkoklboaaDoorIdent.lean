/- A closure that hands out a fresh identifier node, walked. No condition. -/
import Derived.Test.YtlgefnjkoklboaaDoorUse
import Derived.Test.YtlgefnjkoklboaaDoorRega
import Derived.RegionTactic
import Derived.ChangeAlike
namespace Go.Proofs.YtlgefnjkoklboaaDoor.Use
open Go.ChangeShapes Go.WideShapes Go.ChangeAt Go.RowKit Go.Sort
set_option linter.unusedVariables false
def rId1E (B N b0 b1 b2 ib pb sb i c : Nat) (src loc : Int) (C : Array Value) : Nat → Rega.Atoms → Value
  | 0, α => .pointer (some ⟨pb, 0, none⟩)
  | 1, α => .pointer (some ⟨ib, 0, none⟩)
  | 2, α => .pointer (some ⟨ib, 0, none⟩)
  | 3, α => .pointer (some ⟨ib, 0, none⟩)
  | 4, α => .agg #[.int .u32 src, .int .u32 (i : Int)]
  | 5, α => .tuple #[]
  | _, _ => undef
def rId1F (B N b0 b1 b2 ib pb sb i c : Nat) (src loc : Int) (C : Array Value) : Nat → (Nat → Bool) → Rega.Atoms → World → Prop
  | 5, L, α, u => Base.RowAt u sb 223 (C.setIfInBounds (i * 10 + 4) (.int .u32 ((c + 1 : Nat) : Int)))
  | _, _, _, _ => True
def rId1Anc : Nat → List Nat
  | 2 => [1]
  | 3 => [1, 2]
  | 4 => [1, 2, 3]
  | 5 => [0, 1, 2, 3, 4]
  | _ => []
def rId1Mods (B N b0 b1 b2 ib pb sb i c : Nat) (src loc : Int) (C : Array Value) : Nat → List Nat
  | 5 => [sb]
  | _ => []
def rId1Step (B N b0 b1 b2 ib pb sb i c : Nat) (src loc : Int) (C : Array Value) (ii : Nat) (_ : Rega.Atoms) (w w' : World) : Prop := ii < 6 ∧ Base.KeptBut (rId1Mods B N b0 b1 b2 ib pb sb i c src loc C ii) w w'
def rId1G (B N b0 b1 b2 ib pb sb i c : Nat) (src loc : Int) (C : Array Value) (W : World) (L : Nat → Bool) (u : World) : Prop := Base.KeptBut [sb] W u ∧ (L 5 = false → Base.RowAt u sb 223 C)
theorem rId1_he (B N b0 b1 b2 ib pb sb i c : Nat) (src loc : Int) (C : Array Value) : ∀ kk α α', (∀ j, (j % 1000 = kk ∨ j % 1000 ∈ rId1Anc kk) → α j = α' j) → rId1E B N b0 b1 b2 ib pb sb i c src loc C kk α = rId1E B N b0 b1 b2 ib pb sb i c src loc C kk α' := by
  intro kk α α' h
  match kk with
  | 0 => rfl
  | 1 => rfl
  | 2 => rfl
  | 3 => rfl
  | 4 => rfl
  | 5 => rfl
  | n + 6 => rfl
theorem rId1_hF (B N b0 b1 b2 ib pb sb i c : Nat) (src loc : Int) (C : Array Value) : ∀ kk L α α' u, (∀ j, (j % 1000 = kk ∨ j % 1000 ∈ rId1Anc kk) → α j = α' j) → rId1F B N b0 b1 b2 ib pb sb i c src loc C kk L α u → rId1F B N b0 b1 b2 ib pb sb i c src loc C kk L α' u := by
  intro kk L α α' u h hf
  match kk with
  | 0 => trivial
  | 1 => trivial
  | 2 => trivial
  | 3 => trivial
  | 4 => trivial
  | 5 => exact hf
  | n + 6 => trivial
theorem rId1_mods (B N b0 b1 b2 ib pb sb i c : Nat) (src loc : Int) (C : Array Value) (hsN : sb < N) : ∀ ii x, x ∈ rId1Mods B N b0 b1 b2 ib pb sb i c src loc C ii → x < N := by
  intro ii x hx
  unfold rId1Mods at hx
  split at hx <;> simp at hx <;> omega
theorem rId1_hFs (B N b0 b1 b2 ib pb sb i c : Nat) (src loc : Int) (C : Array Value) (hsN : sb < N) : ∀ kk ii L α u u', ii ≠ kk → ii ∉ rId1Anc kk → L kk = true → L ii = false → (∀ j, L j = true → ∀ i, i ∈ rId1Anc j → L i = true) → (∀ j, j ∈ rId1Anc ii → L j = true) → rId1Step B N b0 b1 b2 ib pb sb i c src loc C ii α u u' → rId1F B N b0 b1 b2 ib pb sb i c src loc C kk L α u → rId1F B N b0 b1 b2 ib pb sb i c src loc C kk (Rega.ran L ii) α u' := by
  intro kk ii L α u u' hne hni hLk hLi hcl hai hst hf
  have hm := rId1_mods B N b0 b1 b2 ib pb sb i c src loc C hsN ii
  match kk with
  | 0 => trivial
  | 1 => trivial
  | 2 => trivial
  | 3 => trivial
  | 4 => trivial
  | 5 =>
    refine hf.kept hst.2 ?_
    intro hx
    unfold rId1Mods at hx
    split at hx <;> first | exact absurd rfl hne | exact hni (by decide) | (simp at hx; done) | (simp at hx; omega)
  | n + 6 => trivial
theorem rId1_hGs (B N b0 b1 b2 ib pb sb i c : Nat) (src loc : Int) (C : Array Value) (hsN : sb < N) (W : World) : ∀ ii L α u u', L ii = false → (∀ j, L j = true → ∀ i, i ∈ rId1Anc j → L i = true) → (∀ j, j ∈ rId1Anc ii → L j = true) → rId1Step B N b0 b1 b2 ib pb sb i c src loc C ii α u u' → rId1G B N b0 b1 b2 ib pb sb i c src loc C W L u → rId1G B N b0 b1 b2 ib pb sb i c src loc C W (Rega.ran L ii) u' := by
  intro ii L α u u' hLi hcl hai hst hG
  obtain ⟨hk, g0⟩ := hG
  refine ⟨hk.trans (hst.2.mono (fun x hx => by unfold rId1Mods at hx; split at hx <;> simp at hx <;> simp [hx])), ?_⟩
  · intro hg
    have hik : ii ≠ 5 := by rintro rfl; simp [Rega.ran] at hg
    have hLn : L 5 = false := by simpa [Rega.ran, Ne.symm hik] using hg
    refine (g0 hLn).kept hst.2 ?_
    intro hx
    unfold rId1Mods at hx
    split at hx <;> first | exact absurd rfl hik | exact absurd (hai 5 (by decide)) (by rw [hLn]; decide) | (simp at hx; done) | (simp at hx; omega)

/-- A fresh identifier node for the symbol at loc, and its symbol counted once more. -/
def FreshIdent (sb i c : Nat) (C : Array Value) (src loc : Int) (w : World) (e : Ending) (w' : World) : Prop :=
  ∃ b, e = .returned (.agg #[.iface 55 (.pointer (some ⟨b, 0, none⟩)), .int .i32 loc]) ∧ w.heap.size ≤ b ∧ Bump sb i c C w w' ∧
    Base.RowAt w' b 214 #[.int .u32 src, .int .u32 (i : Int), .bool false, .bool false, .bool false]
set_option maxRecDepth 100000 in
set_option maxHeartbeats 1000000 in
theorem identFn (b0 b1 b2 ib pb sb n cap i c : Nat) (src loc : Int) (C : Array Value) (w : World) (hP : ParAt w pb sb n cap) (hi : i < n) (hn : n ≤ 4294967295) (hne : pb ≠ sb)
    (hC : Base.RowAt w sb 223 C) (hc : C[i * 10 + 4]? = some (.int .u32 (c : Int))) (hcm : c < 4294967295)
    (k0 : w.cell? ⟨b0, 0, none⟩ = some (.pointer (some ⟨pb, 0, none⟩))) (k1 : w.cell? ⟨b1, 0, none⟩ = some (.pointer (some ⟨ib, 0, none⟩))) (k2 : w.cell? ⟨b2, 0, none⟩ = some (.int .i32 loc))
    (k3 : w.cell? ⟨ib, 0, none⟩ = some (.int .u32 src)) (k4 : w.cell? ⟨ib, 1, none⟩ = some (.int .u32 (i : Int)))
    (n0 : b0 ≠ sb) (n1 : b1 ≠ sb) (n2 : b2 ≠ sb) (n3 : ib ≠ sb) :
    Calls Tryd.prog 59 #[.pointer (some ⟨b0, 0, none⟩), .pointer (some ⟨b1, 0, none⟩), .pointer (some ⟨b2, 0, none⟩)] w (FreshIdent sb i c C src loc w) := by
  have l0 := Base.block_of_cell k0
  have l1 := Base.block_of_cell k1
  have l2 := Base.block_of_cell k2
  have l3 := Base.block_of_cell k3
  have ls := hC.lt
  have Hc := Lib.hid hc
  clear hc
  go_enter Tryd.func59, Tryd.ntmps59
  go_wp2
  generalize hW : World.alloc _ _ = W
  have hz : w.heap.size < W.heap.size := by rw [← hW]; simp
  have hbW : Below w.heap.size w W := by rw [← hW]; go_grown
  have r3 : Base.RowAt W w.heap.size 34 #[.nilIface, .int .i32 0] := by rw [← hW]; exact Base.RowAt.new _ _ _
  clear hW
  have hP := hP.below hbW hP.lt
  have hC := hC.below hbW ls
  have k0 := Base.cell_below hbW l0 k0
  have k1 := Base.cell_below hbW l1 k1
  have k2 := Base.cell_below hbW l2 k2
  have k3 := Base.cell_below hbW l3 k3
  have k4 := Base.cell_below hbW l3 k4
  obtain ⟨B, hB⟩ : ∃ B, B = w.heap.size := ⟨_, rfl⟩
  obtain ⟨N, hNe⟩ : ∃ N, N = W.heap.size := ⟨_, rfl⟩
  have hNW : N ≤ W.heap.size := Nat.le_of_eq hNe
  have hsN : sb < N := by omega
  have HNe := Lib.hid hNe
  rw [← hB] at r3 ⊢
  have HB := Lib.hid hB
  clear hB hNe
  refine Rega.wp_region_atoms (e := rId1E B N b0 b1 b2 ib pb sb i c src loc C) (F := rId1F B N b0 b1 b2 ib pb sb i c src loc C) (anc := rId1Anc) (G := rId1G B N b0 b1 b2 ib pb sb i c src loc C W) (Step := rId1Step B N b0 b1 b2 ib pb sb i c src loc C) (by kernel_rfl) (by kernel_rfl) (by kernel_rfl) (by kernel_rfl) (rId1_he B N b0 b1 b2 ib pb sb i c src loc C) (rId1_hF B N b0 b1 b2 ib pb sb i c src loc C) (rId1_hFs B N b0 b1 b2 ib pb sb i c src loc C hsN) (rId1_hGs B N b0 b1 b2 ib pb sb i c src loc C hsN W) ⟨(Base.KeptBut.refl _ _).drew, fun _ => hC.drew⟩ (Rega.RunsAll.all ?_) ?_
  · refine ⟨?_, ?_, ?_, ?_, ?_, ?_, trivial⟩
    · intro L α a u K hL hcl hG hA hS h0 hK
      have q0 : a.tmps[0]? = some (.pointer (some ⟨b0, 0, none⟩)) := (h0 0 (by kernel_rfl)).trans rfl
      have s0 := Rega.eval_of q0
      have c0 : u.cell? ⟨b0, 0, none⟩ = some (.pointer (some ⟨pb, 0, none⟩)) := hG.1.cell_some k0 (by simp <;> omega)
      go_simp
      exact hK _ α _ (fun _ _ => rfl) rfl trivial ⟨by decide, .refl _ _⟩
    · intro L α a u K hL hcl hG hA hS h0 hK
      have q1 : a.tmps[1]? = some (.pointer (some ⟨b1, 0, none⟩)) := (h0 1 (by kernel_rfl)).trans rfl
      have s1 := Rega.eval_of q1
      have c0 : u.cell? ⟨b1, 0, none⟩ = some (.pointer (some ⟨ib, 0, none⟩)) := hG.1.cell_some k1 (by simp <;> omega)
      go_simp
      exact hK _ α _ (fun _ _ => rfl) rfl trivial ⟨by decide, .refl _ _⟩
    · intro L α a u K hL hcl hG hA hS h0 hK
      have q5 : a.tmps[5]? = some (.pointer (some ⟨ib, 0, none⟩)) := hS 1 5 (by decide) rfl (by show 5 < 19; decide)
      have s5 := Rega.eval_of q5
      go_simp
      exact hK _ α _ (fun _ _ => rfl) rfl trivial ⟨by decide, .refl _ _⟩
    · intro L α a u K hL hcl hG hA hS h0 hK
      have q6 : a.tmps[6]? = some (.pointer (some ⟨ib, 0, none⟩)) := hS 2 6 (by decide) rfl (by show 6 < 19; decide)
      have s6 := Rega.eval_of q6
      go_simp
      exact hK _ α _ (fun _ _ => rfl) rfl trivial ⟨by decide, .refl _ _⟩
    · intro L α a u K hL hcl hG hA hS h0 hK
      have q7 : a.tmps[7]? = some (.pointer (some ⟨ib, 0, none⟩)) := hS 3 7 (by decide) rfl (by show 7 < 19; decide)
      have s7 := Rega.eval_of q7
      have c0 : u.cell? ⟨ib, 0, none⟩ = some (.int .u32 src) := hG.1.cell_some k3 (by simp <;> omega)
      have c1 : u.cell? ⟨ib, 1, none⟩ = some (.int .u32 (i : Int)) := hG.1.cell_some k4 (by simp <;> omega)
      go_simp
      exact hK _ α _ (fun _ _ => rfl) rfl trivial ⟨by decide, .refl _ _⟩
    · intro L α a u K hL hcl hG hA hS h0 hK
      have q4 : a.tmps[4]? = some (.pointer (some ⟨pb, 0, none⟩)) := hS 0 4 (by decide) rfl (by show 4 < 19; decide)
      have s4 := Rega.eval_of q4
      have q8 : a.tmps[8]? = some (.agg #[.int .u32 src, .int .u32 (i : Int)]) := hS 4 8 (by decide) rfl (by show 8 < 19; decide)
      have s8 := Rega.eval_of q8
      go_simp
      have hrs := (hG.2 hL)
      refine Calls.mono (recordUsage pb sb n cap i c src C _ (hP.kept hG.1 (by simp <;> omega)) hi hn hne hrs Hc.out hcm) ?_
      rintro e u1 ⟨rfl, hb1, hb2⟩
      exact hK _ α _ (fun _ _ => rfl) rfl hb2 ⟨by decide, hb1⟩
  · intro α u hG hF
    have f5_0 : Base.RowAt u sb 223 (C.setIfInBounds (i * 10 + 4) (.int .u32 ((c + 1 : Nat) : Int))) := (hF 5 (by decide))
    clear hF
    generalize hfr : Rega.frameAt _ _ _ _ _ = fr
    have hdf : fr = ⟨#[.pointer (some ⟨b0, 0, none⟩), .pointer (some ⟨b1, 0, none⟩), .pointer (some ⟨b2, 0, none⟩), .pointer (some ⟨B, 0, none⟩), .pointer (some ⟨pb, 0, none⟩), .pointer (some ⟨ib, 0, none⟩), .pointer (some ⟨ib, 0, none⟩), .pointer (some ⟨ib, 0, none⟩), .agg #[.int .u32 src, .int .u32 (i : Int)], .tuple #[], undef, undef, undef, undef, undef, undef, undef, undef, undef], []⟩ := by rw [← hfr]; kernel_rfl
    clear hfr
    subst hdf
    have hkb := hG.1
    have hb : Base.KeptBut [sb] w u := (Base.KeptBut.of_below hbW).trans hkb
    have r3 := r3.kept hkb (by have := HB.out; simp; omega)
    have hlt : B < u.heap.size := by have := HB.out; have := hkb.size; omega
    have k1 := hkb.cell_some k1 (by simp <;> omega)
    have k2 := hkb.cell_some k2 (by simp <;> omega)
    have k3 := hkb.cell_some k3 (by simp <;> omega)
    have k4 := hkb.cell_some k4 (by simp <;> omega)
    have m1 := Base.block_of_cell k1
    have m2 := Base.block_of_cell k2
    have m3 := Base.block_of_cell k3
    have o0 : u.cell? ⟨B, 0, none⟩ = some .nilIface := r3.cell rfl
    have o1 : u.cell? ⟨B, 1, none⟩ = some (.int .i32 0) := r3.cell rfl
    have o2 := r3.free 0
    have o3 := r3.free 1
    have H3 := Lib.hid r3
    have H5 := Lib.hid f5_0
    have Hb := Lib.hid hb
    clear hG hP hC f5_0 hkb hb r3 k0
    go_wp2
    go_region
    go_wp2
    have hB := HB.out
    have hne2 : sb ≠ B := by omega
    have hw := Hb.out.size
    generalize hV : World.drew _ = V
    have hbV : Base.KeptBut [sb] w V := by
      rw [← hV]
      exact (((Hb.out.setCell (Or.inr (by simp; omega)) _).setCell (Or.inr (by simp; omega)) _).alloc _).drew
    have hsV : Base.RowAt V sb 223 (C.setIfInBounds (i * 10 + 4) (.int .u32 ((c + 1 : Nat) : Int))) := by
      rw [← hV]
      exact (((H5.out.setOther (by simpa using hne2) _).setOther (by simpa using hne2) _).alloc _).drew
    have hnV : Base.RowAt V u.heap.size 214 #[.int .u32 src, .int .u32 (i : Int), .bool false, .bool false, .bool false] := by
      rw [← hV]
      exact (Base.RowAt.new' _ _ _ _ (by simp)).drew
    have hrV : Base.RowAt V B 34 #[.iface 55 (.pointer (some ⟨u.heap.size, 0, none⟩)), .int .i32 loc] := by
      rw [← hV]
      exact (((H3.out.set 0 _).set 1 _).alloc _).drew
    clear hV
    have z0 : V.cell? ⟨B, 0, none⟩ = some (.iface 55 (.pointer (some ⟨u.heap.size, 0, none⟩))) := hrV.cell rfl
    have z1 : V.cell? ⟨B, 1, none⟩ = some (.int .i32 loc) := hrV.cell rfl
    refine bodyPost_ret (v := .agg #[.iface 55 (.pointer (some ⟨u.heap.size, 0, none⟩)), .int .i32 loc]) ?_ rfl ?_
    · simp [results, Tryd.results59, go_sem, z0, z1]
    · exact ⟨u.heap.size, rfl, hw, ⟨hbV, hsV⟩, hnV⟩
end Go.Proofs.YtlgefnjkoklboaaDoor.Use
