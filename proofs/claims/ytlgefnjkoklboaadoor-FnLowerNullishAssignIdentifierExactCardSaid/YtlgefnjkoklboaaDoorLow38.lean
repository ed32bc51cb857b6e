/- The lowering of a nullish assignment, from its entry on. No condition. -/
import Derived.Test.YtlgefnjkoklboaaDoorIdNull
import Derived.Test.YtlgefnjkoklboaaDoorNoPriv
namespace Go.Proofs.YtlgefnjkoklboaaDoor.Use
open Go.ChangeShapes Go.WideShapes Go.ChangeAt Go.RowKit Go.Sort
set_option linter.unusedVariables false
def r38E (B N pb eb T ib : Nat) (ll loc : Int) : Nat → Rega.Atoms → Value
  | 0, α => .pointer (some ⟨pb, 0, none⟩)
  | 1, α => .pointer (some ⟨eb, 0, none⟩)
  | 2, α => .pointer (some ⟨eb, 0, none⟩)
  | 3, α => .pointer (some ⟨eb, 0, none⟩)
  | 4, α => .agg #[.iface T (.pointer (some ⟨ib, 0, none⟩)), .int .i32 ll]
  | 5, α => .tuple #[.agg #[.nilIface, .int .i32 0], .agg #[.int .i32 0], .pointer none]
  | 6, α => .tuple #[.agg #[.nilIface, .int .i32 0], .agg #[.int .i32 0], .pointer none]
  | 7, α => .agg #[.nilIface, .int .i32 0]
  | 8, α => .agg #[.int .i32 0]
  | 9, α => .pointer none
  | 10, α => .pointer (some ⟨α 10, 0, none⟩)
  | 11, α => .pointer (some ⟨α 11, 0, none⟩)
  | 12, α => undef
  | 13, α => undef
  | 14, α => .pointer none
  | _, _ => undef
def r38F (B N pb eb T ib : Nat) (ll loc : Int) : Nat → (Nat → Bool) → Rega.Atoms → World → Prop
  | 10, L, α, u => N ≤ α 10 ∧ (L 12 = false → Base.RowAt u (α 10) 34 #[.nilIface, .int .i32 0])
  | 11, L, α, u => N ≤ α 11 ∧ (L 13 = false → Base.RowAt u (α 11) 32 #[.int .i32 0])
  | 12, L, α, u => N ≤ α 10 ∧ Base.RowAt u (α 10) 34 #[.nilIface, .int .i32 0]
  | 13, L, α, u => N ≤ α 11 ∧ Base.RowAt u (α 11) 32 #[.int .i32 0]
  | _, _, _, _ => True
def r38Anc : Nat → List Nat
  | 2 => [1]
  | 3 => [1, 2]
  | 4 => [1, 2, 3]
  | 5 => [0, 1, 2, 3, 4]
  | 6 => [0, 1, 2, 3, 4, 5]
  | 7 => [0, 1, 2, 3, 4, 5, 6]
  | 8 => [0, 1, 2, 3, 4, 5, 6]
  | 9 => [0, 1, 2, 3, 4, 5, 6]
  | 12 => [0, 1, 2, 3, 4, 5, 6, 7, 10, 11]
  | 13 => [0, 1, 2, 3, 4, 5, 6, 7, 8, 10, 11, 12]
  | 14 => [0, 1, 2, 3, 4, 5, 6, 7, 8, 9, 10, 11, 12, 13]
  | _ => []
def r38Mods (B N pb eb T ib : Nat) (ll loc : Int) : Nat → List Nat
  | _ => []
def r38Late (α : Rega.Atoms) : Nat → List Nat
  | 12 => [α 10]
  | 13 => [α 11]
  | _ => []
def r38Step (B N pb eb T ib : Nat) (ll loc : Int) (ii : Nat) (α : Rega.Atoms) (w w' : World) : Prop := ii < 15 ∧ Base.KeptBut (r38Mods B N pb eb T ib ll loc ii ++ r38Late α ii) w w' ∧ (ii = 12 → N ≤ α 10 ∧ Base.RowAt w (α 10) 34 #[.nilIface, .int .i32 0]) ∧ (ii = 13 → N ≤ α 11 ∧ Base.RowAt w (α 11) 32 #[.int .i32 0])
theorem r38_late (α : Rega.Atoms) (ii x : Nat) (h : x ∈ r38Late α ii) : (ii = 12 ∧ x = α 10) ∨ (ii = 13 ∧ x = α 11) := by
  unfold r38Late at h
  split at h <;> simp at h <;> simp [h]
def r38G (B N pb eb T ib : Nat) (ll loc : Int) (W : World) (L : Nat → Bool) (u : World) : Prop := Base.KeptBut [] W u
theorem r38_he (B N pb eb T ib : Nat) (ll loc : Int) : ∀ kk α α', (∀ j, (j % 1000 = kk ∨ j % 1000 ∈ r38Anc kk) → α j = α' j) → r38E B N pb eb T ib ll loc kk α = r38E B N pb eb T ib ll loc kk α' := by
  intro kk α α' h
  match kk with
  | 0 => rfl
  | 1 => rfl
  | 2 => rfl
  | 3 => rfl
  | 4 => rfl
  | 5 => rfl
  | 6 => rfl
  | 7 => rfl
  | 8 => rfl
  | 9 => rfl
  | 10 => simp only [r38E, h 10 (Or.inl rfl)]
  | 11 => simp only [r38E, h 11 (Or.inl rfl)]
  | 12 => rfl
  | 13 => rfl
  | 14 => rfl
  | n + 15 => rfl
theorem r38_hF (B N pb eb T ib : Nat) (ll loc : Int) : ∀ kk L α α' u, (∀ j, (j % 1000 = kk ∨ j % 1000 ∈ r38Anc kk) → α j = α' j) → r38F B N pb eb T ib ll loc kk L α u → r38F B N pb eb T ib ll loc kk L α' u := by
  intro kk L α α' u h hf
  match kk with
  | 0 => trivial
  | 1 => trivial
  | 2 => trivial
  | 3 => trivial
  | 4 => trivial
  | 5 => trivial
  | 6 => trivial
  | 7 => trivial
  | 8 => trivial
  | 9 => trivial
  | 10 => simpa only [r38F, h 10 (Or.inl rfl)] using hf
  | 11 => simpa only [r38F, h 11 (Or.inl rfl)] using hf
  | 12 => simpa only [r38F, h 10 (Or.inr (by decide))] using hf
  | 13 => simpa only [r38F, h 11 (Or.inr (by decide))] using hf
  | 14 => trivial
  | n + 15 => trivial
theorem r38_mods (B N pb eb T ib : Nat) (ll loc : Int) (hBN : B + 4 ≤ N) : ∀ ii xq, xq ∈ r38Mods B N pb eb T ib ll loc ii → xq < N := by
  intro ii xq hx
  unfold r38Mods at hx
  split at hx <;> simp at hx <;> omega
theorem r38_hFs (B N pb eb T ib : Nat) (ll loc : Int) (hBN : B + 4 ≤ N) : ∀ kk ii L α u u', ii ≠ kk → ii ∉ r38Anc kk → L kk = true → L ii = false → (∀ j, L j = true → ∀ i, i ∈ r38Anc j → L i = true) → (∀ j, j ∈ r38Anc ii → L j = true) → r38Step B N pb eb T ib ll loc ii α u u' → r38F B N pb eb T ib ll loc kk L α u → r38F B N pb eb T ib ll loc kk (Rega.ran L ii) α u' := by
  intro kk ii L α u u' hne hni hLk hLi hcl hai hst hf
  have hm := r38_mods B N pb eb T ib ll loc hBN ii
  match kk with
  | 0 => trivial
  | 1 => trivial
  | 2 => trivial
  | 3 => trivial
  | 4 => trivial
  | 5 => trivial
  | 6 => trivial
  | 7 => trivial
  | 8 => trivial
  | 9 => trivial
  | 10 =>
    refine ⟨?_, ?_⟩
    · exact hf.1
    · intro hg
      have hik : ii ≠ 12 := by rintro rfl; simp [Rega.ran] at hg
      have hLn : L 12 = false := by simpa [Rega.ran, Ne.symm hik] using hg
      refine (hf.2 hLn).kept hst.2.1 ?_
      intro h
      rcases List.mem_append.1 h with h | h
      · have h1 := hm _ h; have h2 := hf.1; omega
      · rcases r38_late _ _ _ h with ⟨e, h⟩ | ⟨e, h⟩
        · exact absurd e hik
        · exact Base.row_ne_type (hf.2 hLn) (hst.2.2.2 e).2 (by decide) h
  | 11 =>
    refine ⟨?_, ?_⟩
    · exact hf.1
    · intro hg
      have hik : ii ≠ 13 := by rintro rfl; simp [Rega.ran] at hg
      have hLn : L 13 = false := by simpa [Rega.ran, Ne.symm hik] using hg
      refine (hf.2 hLn).kept hst.2.1 ?_
      intro h
      rcases List.mem_append.1 h with h | h
      · have h1 := hm _ h; have h2 := hf.1; omega
      · rcases r38_late _ _ _ h with ⟨e, h⟩ | ⟨e, h⟩
        · exact Base.row_ne_type (hf.2 hLn) (hst.2.2.1 e).2 (by decide) h
        · exact absurd e hik
  | 12 =>
    refine ⟨?_, ?_⟩
    · exact hf.1
    · refine hf.2.kept hst.2.1 (fun h => ?_)
      rcases List.mem_append.1 h with h | h
      · have h1 := hm _ h; have h2 := hf.1; omega
      · rcases r38_late _ _ _ h with ⟨e, h⟩ | ⟨e, h⟩
        · exact absurd e hne
        · exact Base.row_ne_type hf.2 (hst.2.2.2 e).2 (by decide) h
  | 13 =>
    refine ⟨?_, ?_⟩
    · exact hf.1
    · refine hf.2.kept hst.2.1 (fun h => ?_)
      rcases List.mem_append.1 h with h | h
      · have h1 := hm _ h; have h2 := hf.1; omega
      · rcases r38_late _ _ _ h with ⟨e, h⟩ | ⟨e, h⟩
        · exact Base.row_ne_type hf.2 (hst.2.2.1 e).2 (by decide) h
        · exact absurd e hne
  | 14 => trivial
  | n + 15 => trivial
theorem r38_hGs (B N pb eb T ib : Nat) (ll loc : Int) (hBN : B + 4 ≤ N) (W : World) (hWN : W.heap.size ≤ N) : ∀ ii L α u u', L ii = false → (∀ j, L j = true → ∀ i, i ∈ r38Anc j → L i = true) → (∀ j, j ∈ r38Anc ii → L j = true) → r38Step B N pb eb T ib ll loc ii α u u' → r38G B N pb eb T ib ll loc W L u → r38G B N pb eb T ib ll loc W (Rega.ran L ii) u' := by
  intro ii L α u u' hLi hcl hai hst hG
  have hm := r38_mods B N pb eb T ib ll loc hBN ii
  have hkk : Base.KeptBut [] W u → W.heap.size ≤ N → Base.KeptBut [] W u' := fun hk hWN => by
    refine ⟨hst.2.1.os.trans hk.os, hst.2.1.tape.trans hk.tape, hst.2.1.output.trans hk.output, Nat.le_trans hk.size hst.2.1.size, fun x hx hn => ?_⟩
    refine (hst.2.1.block x (Nat.lt_of_lt_of_le hx hk.size) (fun h => ?_)).trans (hk.block x hx hn)
    rcases List.mem_append.1 h with h | h
    · unfold r38Mods at h; simp at h
    · rcases r38_late _ _ _ h with ⟨e, h⟩ | ⟨e, h⟩
      · have h9 := (hst.2.2.1 e).1; omega
      · have h9 := (hst.2.2.2 e).1; omega
  exact hkk hG hWN
set_option maxRecDepth 100000 in
set_option maxHeartbeats 1000000 in
theorem low38no (pb eb T ib : Nat) (x ll loc : Int) (w : World) (hx : w.cell? ⟨pb, 23, none⟩ = some (.int .u64 x))
    (e0 : w.cell? ⟨eb, 0, none⟩ = some (.iface T (.pointer (some ⟨ib, 0, none⟩)))) (e1 : w.cell? ⟨eb, 1, none⟩ = some (.int .i32 ll)) (hpriv : ∀ u : World, Calls Tryd.prog 40 #[.pointer (some ⟨pb, 0, none⟩), .agg #[.iface T (.pointer (some ⟨ib, 0, none⟩)), .int .i32 ll]] u fun e w' => e = .returned (.tuple #[.agg #[.nilIface, .int .i32 0], .agg #[.int .i32 0], .pointer none]) ∧ Below u.heap.size u w') (hx1 : (bits BinOp.and IntKind.u64 x 137438953472 != 0) = false) :
    Calls Tryd.prog 38 #[.pointer (some ⟨pb, 0, none⟩), .agg #[.int .i32 loc], .pointer (some ⟨eb, 0, none⟩)] w fun e w' => e = .returned (.tuple #[.agg #[.nilIface, .int .i32 0], .bool false]) ∧ Below w.heap.size w w' := by
  have le := Base.block_of_cell e0
  have lx := Base.block_of_cell hx
  go_enter Tryd.func38, Tryd.ntmps38
  go_wp2
  generalize hW : World.alloc _ _ = W
  have hz : w.heap.size + 4 ≤ W.heap.size := by rw [← hW]; simp <;> omega
  have hbW : Below w.heap.size w W := by rw [← hW]; go_grown
  have r0 : Base.RowAt W (w.heap.size) 23 #[.pointer (some ⟨pb, 0, none⟩)] := by
    rw [← hW]
    repeat (first | (refine Base.RowAt.new' _ _ _ _ ?_; simp; done) | refine Base.RowAt.drew ?_ | refine Base.RowAt.alloc ?_ _)
  have r1 : Base.RowAt W (w.heap.size + 1) 32 #[.int .i32 loc] := by
    rw [← hW]
    repeat (first | (refine Base.RowAt.new' _ _ _ _ ?_; simp; done) | refine Base.RowAt.drew ?_ | refine Base.RowAt.alloc ?_ _)
  have r2 : Base.RowAt W (w.heap.size + 1 + 1) 41 #[.pointer (some ⟨eb, 0, none⟩)] := by
    rw [← hW]
    repeat (first | (refine Base.RowAt.new' _ _ _ _ ?_; simp; done) | refine Base.RowAt.drew ?_ | refine Base.RowAt.alloc ?_ _)
  have r3 : Base.RowAt W (w.heap.size + 1 + 1 + 1) 34 #[.nilIface, .int .i32 0] := by
    rw [← hW]
    repeat (first | (refine Base.RowAt.new' _ _ _ _ ?_; simp; done) | refine Base.RowAt.drew ?_ | refine Base.RowAt.alloc ?_ _)
  clear hW
  obtain ⟨B, hB⟩ : ∃ B, B = w.heap.size := ⟨_, rfl⟩
  obtain ⟨N, hNe⟩ : ∃ N, N = W.heap.size := ⟨_, rfl⟩
  have hNW : N ≤ W.heap.size := Nat.le_of_eq hNe
  have hBN : B + 4 ≤ N := by omega
  have HNe := Lib.hid hNe
  rw [← hB] at r0 r1 r2 r3 ⊢
  have HB := Lib.hid hB
  clear hB hNe
  have hWN : W.heap.size ≤ N := Nat.le_of_eq HNe.out.symm
  have e0' := Base.cell_below hbW le e0
  have e1' := Base.cell_below hbW le e1
  have hEb : eb < B := by have := HB.out; omega
  have e0w := e0
  clear e0 e1
  have e0 := e0'
  have e1 := e1'
  refine Rega.wp_region_atoms (e := r38E B N pb eb T ib ll loc) (F := r38F B N pb eb T ib ll loc) (anc := r38Anc) (G := r38G B N pb eb T ib ll loc W) (Step := r38Step B N pb eb T ib ll loc) (by kernel_rfl) (by kernel_rfl) (by kernel_rfl) (by kernel_rfl) (r38_he B N pb eb T ib ll loc) (r38_hF B N pb eb T ib ll loc) (r38_hFs B N pb eb T ib ll loc hBN) (r38_hGs B N pb eb T ib ll loc hBN W hWN) ((Base.KeptBut.refl _ _).drew) (Rega.RunsAll.all ?_) ?_
  · refine ⟨?_, ?_, ?_, ?_, ?_, ?_, ?_, ?_, ?_, ?_, ?_, ?_, ?_, ?_, ?_, trivial⟩
    · intro L α a u K hL hcl hG hA hS h0 hK
      have q3 : a.tmps[3]? = some (.pointer (some ⟨B, 0, none⟩)) := (h0 3 (by kernel_rfl)).trans rfl
      have s3 := Rega.eval_of q3
      have c0 : u.cell? ⟨B, 0, none⟩ = some (.pointer (some ⟨pb, 0, none⟩)) := hG.cell_some (r0.cell rfl) (by simp <;> omega)
      go_simp
      exact hK _ α _ (fun _ _ => rfl) rfl trivial ⟨by decide, .refl _ _, fun e => absurd e (by decide), fun e => absurd e (by decide)⟩
    · intro L α a u K hL hcl hG hA hS h0 hK
      have q5 : a.tmps[5]? = some (.pointer (some ⟨B + 1 + 1, 0, none⟩)) := (h0 5 (by kernel_rfl)).trans rfl
      have s5 := Rega.eval_of q5
      have c0 : u.cell? ⟨B + 1 + 1, 0, none⟩ = some (.pointer (some ⟨eb, 0, none⟩)) := hG.cell_some (r2.cell rfl) (by simp <;> omega)
      go_simp
      exact hK _ α _ (fun _ _ => rfl) rfl trivial ⟨by decide, .refl _ _, fun e => absurd e (by decide), fun e => absurd e (by decide)⟩
    · intro L α a u K hL hcl hG hA hS h0 hK
      have q19 : a.tmps[19]? = some (.pointer (some ⟨eb, 0, none⟩)) := hS 1 19 (by decide) rfl (by show 19 < 111; decide)
      have s19 := Rega.eval_of q19
      go_simp
      exact hK _ α _ (fun _ _ => rfl) rfl trivial ⟨by decide, .refl _ _, fun e => absurd e (by decide), fun e => absurd e (by decide)⟩
    · intro L α a u K hL hcl hG hA hS h0 hK
      have q20 : a.tmps[20]? = some (.pointer (some ⟨eb, 0, none⟩)) := hS 2 20 (by decide) rfl (by show 20 < 111; decide)
      have s20 := Rega.eval_of q20
      go_simp
      exact hK _ α _ (fun _ _ => rfl) rfl trivial ⟨by decide, .refl _ _, fun e => absurd e (by decide), fun e => absurd e (by decide)⟩
    · intro L α a u K hL hcl hG hA hS h0 hK
      have q21 : a.tmps[21]? = some (.pointer (some ⟨eb, 0, none⟩)) := hS 3 21 (by decide) rfl (by show 21 < 111; decide)
      have s21 := Rega.eval_of q21
      have c0 : u.cell? ⟨eb, 0, none⟩ = some (.iface T (.pointer (some ⟨ib, 0, none⟩))) := hG.cell_some e0 (by simp <;> omega)
      have c1 : u.cell? ⟨eb, 1, none⟩ = some (.int .i32 ll) := hG.cell_some e1 (by simp <;> omega)
      go_simp
      exact hK _ α _ (fun _ _ => rfl) rfl trivial ⟨by decide, .refl _ _, fun e => absurd e (by decide), fun e => absurd e (by decide)⟩
    · intro L α a u K hL hcl hG hA hS h0 hK
      have q18 : a.tmps[18]? = some (.pointer (some ⟨pb, 0, none⟩)) := hS 0 18 (by decide) rfl (by show 18 < 111; decide)
      have s18 := Rega.eval_of q18
      have q22 : a.tmps[22]? = some (.agg #[.iface T (.pointer (some ⟨ib, 0, none⟩)), .int .i32 ll]) := hS 4 22 (by decide) rfl (by show 22 < 111; decide)
      have s22 := Rega.eval_of q22
      go_simp
      refine Calls.mono (hpriv _) ?_
      rintro e u1 ⟨rfl, hb⟩
      exact hK _ α _ (fun _ _ => rfl) rfl trivial ⟨by decide, Base.KeptBut.of_below hb, fun e => absurd e (by decide), fun e => absurd e (by decide)⟩
    · intro L α a u K hL hcl hG hA hS h0 hK
      have q23 : a.tmps[23]? = some (.tuple #[.agg #[.nilIface, .int .i32 0], .agg #[.int .i32 0], .pointer none]) := hS 5 23 (by decide) rfl (by show 23 < 111; decide)
      have s23 := Rega.eval_of q23
      go_simp
      exact hK _ α _ (fun _ _ => rfl) rfl trivial ⟨by decide, .refl _ _, fun e => absurd e (by decide), fun e => absurd e (by decide)⟩
    · intro L α a u K hL hcl hG hA hS h0 hK
      have q17 : a.tmps[17]? = some (.tuple #[.agg #[.nilIface, .int .i32 0], .agg #[.int .i32 0], .pointer none]) := hS 6 17 (by decide) rfl (by show 17 < 111; decide)
      have s17 := Rega.eval_of q17
      go_simp
      exact hK _ α _ (fun _ _ => rfl) rfl trivial ⟨by decide, .refl _ _, fun e => absurd e (by decide), fun e => absurd e (by decide)⟩
    · intro L α a u K hL hcl hG hA hS h0 hK
      have q17 : a.tmps[17]? = some (.tuple #[.agg #[.nilIface, .int .i32 0], .agg #[.int .i32 0], .pointer none]) := hS 6 17 (by decide) rfl (by show 17 < 111; decide)
      have s17 := Rega.eval_of q17
      go_simp
      exact hK _ α _ (fun _ _ => rfl) rfl trivial ⟨by decide, .refl _ _, fun e => absurd e (by decide), fun e => absurd e (by decide)⟩
    · intro L α a u K hL hcl hG hA hS h0 hK
      have q17 : a.tmps[17]? = some (.tuple #[.agg #[.nilIface, .int .i32 0], .agg #[.int .i32 0], .pointer none]) := hS 6 17 (by decide) rfl (by show 17 < 111; decide)
      have s17 := Rega.eval_of q17
      go_simp
      exact hK _ α _ (fun _ _ => rfl) rfl trivial ⟨by decide, .refl _ _, fun e => absurd e (by decide), fun e => absurd e (by decide)⟩
    · intro L α a u K hL hcl hG hA hS h0 hK
      go_simp
      exact hK _ (fun j => if j = 10 then u.heap.size else α j) _ (fun j hj => if_neg (by omega)) rfl ⟨Nat.le_trans hNW hG.size, fun _ => Base.RowAt.new u _ _⟩ ⟨by decide, (Base.KeptBut.refl _ _).alloc _, fun e => absurd e (by decide), fun e => absurd e (by decide)⟩
    · intro L α a u K hL hcl hG hA hS h0 hK
      go_simp
      exact hK _ (fun j => if j = 11 then u.heap.size else α j) _ (fun j hj => if_neg (by omega)) rfl ⟨Nat.le_trans hNW hG.size, fun _ => Base.RowAt.new u _ _⟩ ⟨by decide, (Base.KeptBut.refl _ _).alloc _, fun e => absurd e (by decide), fun e => absurd e (by decide)⟩
    · intro L α a u K hL hcl hG hA hS h0 hK
      have q8 : a.tmps[8]? = some (.pointer (some ⟨α 10, 0, none⟩)) := hS 10 8 (by decide) rfl (by show 8 < 111; decide)
      have s8 := Rega.eval_of q8
      have q24 : a.tmps[24]? = some (.agg #[.nilIface, .int .i32 0]) := hS 7 24 (by decide) rfl (by show 24 < 111; decide)
      have s24 := Rega.eval_of q24
      have hr := (hA 10 (by decide)).2.2 hL
      have hlo := (hA 10 (by decide)).2.1
      have x0 : u.cell? ⟨α 10, 0, none⟩ = some (.nilIface) := hr.cell rfl
      have y0 : u.frozen? ⟨α 10, 0, none⟩ = false := hr.free 0
      have x1 : u.cell? ⟨α 10, 1, none⟩ = some (.int .i32 0) := hr.cell rfl
      have y1 : u.frozen? ⟨α 10, 1, none⟩ = false := hr.free 1
      have HR := Lib.hid hr
      clear hr
      go_simp
      exact hK _ α _ (fun _ _ => rfl) rfl ⟨hlo, ((HR.out.set 0 _).set 1 _)⟩ ⟨by decide, ((Base.KeptBut.refl _ _).setCell (Or.inl (by simp [r38Mods, r38Late])) _).setCell (Or.inl (by simp [r38Mods, r38Late])) _, fun _ => ⟨hlo, HR.out⟩, fun e => absurd e (by decide)⟩
    · intro L α a u K hL hcl hG hA hS h0 hK
      have q9 : a.tmps[9]? = some (.pointer (some ⟨α 11, 0, none⟩)) := hS 11 9 (by decide) rfl (by show 9 < 111; decide)
      have s9 := Rega.eval_of q9
      have q25 : a.tmps[25]? = some (.agg #[.int .i32 0]) := hS 8 25 (by decide) rfl (by show 25 < 111; decide)
      have s25 := Rega.eval_of q25
      have hr := (hA 11 (by decide)).2.2 hL
      have hlo := (hA 11 (by decide)).2.1
      have x0 : u.cell? ⟨α 11, 0, none⟩ = some (.int .i32 0) := hr.cell rfl
      have y0 : u.frozen? ⟨α 11, 0, none⟩ = false := hr.free 0
      have HR := Lib.hid hr
      clear hr
      go_simp
      exact hK _ α _ (fun _ _ => rfl) rfl ⟨hlo, (HR.out.set 0 _)⟩ ⟨by decide, (Base.KeptBut.refl _ _).setCell (Or.inl (by simp [r38Mods, r38Late])) _, fun e => absurd e (by decide), fun _ => ⟨hlo, HR.out⟩⟩
    · intro L α a u K hL hcl hG hA hS h0 hK
      have q26 : a.tmps[26]? = some (.pointer none) := hS 9 26 (by decide) rfl (by show 26 < 111; decide)
      have s26 := Rega.eval_of q26
      go_simp
      exact hK _ α _ (fun _ _ => rfl) rfl trivial ⟨by decide, .refl _ _, fun e => absurd e (by decide), fun e => absurd e (by decide)⟩
  · intro α u hG hF
    have f10_0 : N ≤ α 10 := (hF 10 (by decide)).1
    have f11_0 : N ≤ α 11 := (hF 11 (by decide)).1
    have f12_0 : N ≤ α 10 := (hF 12 (by decide)).1
    have f12_1 : Base.RowAt u (α 10) 34 #[.nilIface, .int .i32 0] := (hF 12 (by decide)).2
    have f13_0 : N ≤ α 11 := (hF 13 (by decide)).1
    have f13_1 : Base.RowAt u (α 11) 32 #[.int .i32 0] := (hF 13 (by decide)).2
    clear hF
    generalize hfr : Rega.frameAt _ _ _ _ _ = fr
    have hdf : fr = ⟨#[.pointer (some ⟨pb, 0, none⟩), .agg #[.int .i32 loc], .pointer (some ⟨eb, 0, none⟩), .pointer (some ⟨B, 0, none⟩), .pointer (some ⟨B + 1, 0, none⟩), .pointer (some ⟨B + 1 + 1, 0, none⟩), .pointer (some ⟨B + 1 + 1 + 1, 0, none⟩), .bool false, .pointer (some ⟨α 10, 0, none⟩), .pointer (some ⟨α 11, 0, none⟩), .pointer none, undef, undef, undef, undef, undef, undef, .tuple #[.agg #[.nilIface, .int .i32 0], .agg #[.int .i32 0], .pointer none], .pointer (some ⟨pb, 0, none⟩), .pointer (some ⟨eb, 0, none⟩), .pointer (some ⟨eb, 0, none⟩), .pointer (some ⟨eb, 0, none⟩), .agg #[.iface T (.pointer (some ⟨ib, 0, none⟩)), .int .i32 ll], .tuple #[.agg #[.nilIface, .int .i32 0], .agg #[.int .i32 0], .pointer none], .agg #[.nilIface, .int .i32 0], .agg #[.int .i32 0], .pointer none, undef, undef, undef, undef, undef, undef, undef, undef, undef, undef, undef, undef, undef, undef, undef, undef, undef, undef, undef, undef, undef, undef, undef, undef, undef, undef, undef, undef, undef, undef, undef, undef, undef, undef, undef, undef, undef, undef, undef, undef, undef, undef, undef, undef, undef, undef, undef, undef, undef, undef, undef, undef, undef, undef, undef, undef, undef, undef, undef, undef, undef, undef, undef, undef, undef, undef, undef, undef, undef, undef, undef, undef, undef, undef, undef, undef, undef, undef, undef, undef, undef, undef, undef, undef], []⟩ := by rw [← hfr]; kernel_rfl
    clear hfr
    subst hdf
    have hx1' := hG.cell_some (Base.cell_below hbW lx hx) (by simp)
    have r0 := r0.kept hG (by simp)
    have r1 := r1.kept hG (by simp)
    have r2 := r2.kept hG (by simp)
    have r3 := r3.kept hG (by simp)
    have e0 := hG.cell_some e0 (by simp)
    have e1 := hG.cell_some e1 (by simp)
    have c0 : u.cell? ⟨B, 0, none⟩ = some (.pointer (some ⟨pb, 0, none⟩)) := r0.cell rfl
    have c2 : u.cell? ⟨B + 1 + 1, 0, none⟩ = some (.pointer (some ⟨eb, 0, none⟩)) := r2.cell rfl
    have c3 : u.cell? ⟨B + 1 + 1 + 1, 0, none⟩ = some .nilIface := r3.cell rfl
    have c4 : u.cell? ⟨B + 1 + 1 + 1, 1, none⟩ = some (.int .i32 0) := r3.cell rfl
    have c5 := r3.free 0
    have c6 := r3.free 1
    have hkw : Base.KeptBut [] w u := (Base.KeptBut.of_below hbW).trans hG
    have Hkw := Lib.hid hkw
    have R0 := Lib.hid r0
    have R1 := Lib.hid r1
    have R2 := Lib.hid r2
    have R3 := Lib.hid r3
    have huN : N ≤ u.heap.size := Nat.le_trans hNW hG.size
    clear hkw hG r0 r1 r2 r3 f10_0 f11_0 f12_0 f12_1 f13_0 f13_1 hbW hWN hNW
    go_wp2_with (go_at_call 43; go_in)
    generalize hV : World.setCell _ _ _ = V
    have rv : Base.RowAt V (B + 1 + 1 + 1) 34 #[.nilIface, .int .i32 0] := by
      rw [← hV]
      exact (R3.out.set 0 _).set 1 _
    have hkV : Base.KeptBut [] w V := by
      rw [← hV]
      have hB := HB.out
      exact (Hkw.out.setCell (Or.inr (by show w.heap.size ≤ B + 1 + 1 + 1; omega)) _).setCell (Or.inr (by show w.heap.size ≤ B + 1 + 1 + 1; omega)) _
    clear hV
    have z0 : V.cell? ⟨B + 1 + 1 + 1, 0, none⟩ = some .nilIface := rv.cell rfl
    have z1 : V.cell? ⟨B + 1 + 1 + 1, 1, none⟩ = some (.int .i32 0) := rv.cell rfl
    refine bodyPost_ret (v := .tuple #[.agg #[.nilIface, .int .i32 0], .bool false]) ?_ rfl ?_
    · simp [results, Tryd.results38, go_sem, z0, z1]
    · exact ⟨rfl, hkV.below (Nat.le_refl _) (fun k hk => by simp at hk)⟩
def r38NoE (B N pb eb ib sb i c nb : Nat) (ll loc lr src : Int) (C : Array Value) : Nat → Rega.Atoms → Value
  | 0, α => .pointer (some ⟨pb, 0, none⟩)
  | 1, α => .pointer (some ⟨eb, 0, none⟩)
  | 2, α => .pointer (some ⟨eb, 0, none⟩)
  | 3, α => .pointer (some ⟨eb, 0, none⟩)
  | 4, α => .agg #[.iface 55 (.pointer (some ⟨ib, 0, none⟩)), .int .i32 ll]
  | 5, α => .func (Fn.func 49) #[] #[.pointer (some ⟨B, 0, none⟩), .pointer (some ⟨B + 1, 0, none⟩), .pointer (some ⟨B + 1 + 1, 0, none⟩)]
  | 6, α => .agg #[.iface 41 (.pointer (some ⟨α 6, 0, none⟩)), .int .i32 loc]
  | 7, α => undef
  | 8, α => .bool true
  | _, _ => undef
def r38NoF (B N pb eb ib sb i c nb : Nat) (ll loc lr src : Int) (C : Array Value) : Nat → (Nat → Bool) → Rega.Atoms → World → Prop
  | 6, L, α, u => N ≤ α 2006 ∧ α 2006 < α 1006 ∧ α 1006 < α 6 ∧ Base.RowAt u (α 6) 47 #[.iface 55 (.pointer (some ⟨α 2006, 0, none⟩)), .int .i32 ll, .iface 41 (.pointer (some ⟨α 1006, 0, none⟩)), .int .i32 ll, .int .u8 30, .bool false] ∧ Base.RowAt u (α 1006) 47 #[.iface 55 (.pointer (some ⟨ib, 0, none⟩)), .int .i32 ll, .iface 36 (.pointer (some ⟨nb, 0, none⟩)), .int .i32 lr, .int .u8 37, .bool false] ∧ Base.RowAt u (α 2006) 214 #[.int .u32 src, .int .u32 (i : Int), .bool false, .bool false, .bool false] ∧ Base.RowAt u sb 223 (C.setIfInBounds (i * 10 + 4) (.int .u32 ((c + 1 : Nat) : Int)))
  | 7, L, α, u => Base.RowAt u (B + 1 + 1 + 1) 34 #[.iface 41 (.pointer (some ⟨α 6, 0, none⟩)), .int .i32 loc]
  | _, _, _, _ => True
def r38NoAnc : Nat → List Nat
  | 2 => [1]
  | 3 => [1, 2]
  | 4 => [1, 2, 3]
  | 6 => [0, 1, 2, 3, 4, 5]
  | 7 => [0, 1, 2, 3, 4, 5, 6]
  | 8 => [0, 1, 2, 3, 4, 5, 6, 7]
  | _ => []
def r38NoMods (B N pb eb ib sb i c nb : Nat) (ll loc lr src : Int) (C : Array Value) : Nat → List Nat
  | 6 => [sb]
  | 7 => [B + 1 + 1 + 1]
  | _ => []
def r38NoStep (B N pb eb ib sb i c nb : Nat) (ll loc lr src : Int) (C : Array Value) (ii : Nat) (_ : Rega.Atoms) (w w' : World) : Prop := ii < 9 ∧ Base.KeptBut (r38NoMods B N pb eb ib sb i c nb ll loc lr src C ii) w w'
def r38NoG (B N pb eb ib sb i c nb : Nat) (ll loc lr src : Int) (C : Array Value) (W : World) (L : Nat → Bool) (u : World) : Prop := Base.KeptBut [B + 1 + 1 + 1, sb] W u ∧ (L 6 = false → Base.RowAt u sb 223 C) ∧ (L 7 = false → Base.RowAt u (B + 1 + 1 + 1) 34 #[.nilIface, .int .i32 0])
theorem r38No_he (B N pb eb ib sb i c nb : Nat) (ll loc lr src : Int) (C : Array Value) : ∀ kk α α', (∀ j, (j % 1000 = kk ∨ j % 1000 ∈ r38NoAnc kk) → α j = α' j) → r38NoE B N pb eb ib sb i c nb ll loc lr src C kk α = r38NoE B N pb eb ib sb i c nb ll loc lr src C kk α' := by
  intro kk α α' h
  match kk with
  | 0 => rfl
  | 1 => rfl
  | 2 => rfl
  | 3 => rfl
  | 4 => rfl
  | 5 => rfl
  | 6 => simp only [r38NoE, h 6 (Or.inl rfl)]
  | 7 => rfl
  | 8 => rfl
  | n + 9 => rfl
theorem r38No_hF (B N pb eb ib sb i c nb : Nat) (ll loc lr src : Int) (C : Array Value) : ∀ kk L α α' u, (∀ j, (j % 1000 = kk ∨ j % 1000 ∈ r38NoAnc kk) → α j = α' j) → r38NoF B N pb eb ib sb i c nb ll loc lr src C kk L α u → r38NoF B N pb eb ib sb i c nb ll loc lr src C kk L α' u := by
  intro kk L α α' u h hf
  match kk with
  | 0 => trivial
  | 1 => trivial
  | 2 => trivial
  | 3 => trivial
  | 4 => trivial
  | 5 => trivial
  | 6 => simpa only [r38NoF, h 6 (Or.inl rfl), h 1006 (Or.inl rfl), h 2006 (Or.inl rfl)] using hf
  | 7 => simpa only [r38NoF, h 6 (Or.inr (by decide))] using hf
  | 8 => trivial
  | n + 9 => trivial
theorem r38No_mods (B N pb eb ib sb i c nb : Nat) (ll loc lr src : Int) (C : Array Value) (hBN : B + 4 ≤ N) (hsB : sb < B) : ∀ ii xq, xq ∈ r38NoMods B N pb eb ib sb i c nb ll loc lr src C ii → xq < N := by
  intro ii xq hx
  unfold r38NoMods at hx
  split at hx <;> simp at hx <;> omega
theorem r38No_hFs (B N pb eb ib sb i c nb : Nat) (ll loc lr src : Int) (C : Array Value) (hBN : B + 4 ≤ N) (hsB : sb < B) : ∀ kk ii L α u u', ii ≠ kk → ii ∉ r38NoAnc kk → L kk = true → L ii = false → (∀ j, L j = true → ∀ i, i ∈ r38NoAnc j → L i = true) → (∀ j, j ∈ r38NoAnc ii → L j = true) → r38NoStep B N pb eb ib sb i c nb ll loc lr src C ii α u u' → r38NoF B N pb eb ib sb i c nb ll loc lr src C kk L α u → r38NoF B N pb eb ib sb i c nb ll loc lr src C kk (Rega.ran L ii) α u' := by
  intro kk ii L α u u' hne hni hLk hLi hcl hai hst hf
  have hm := r38No_mods B N pb eb ib sb i c nb ll loc lr src C hBN hsB ii
  match kk with
  | 0 => trivial
  | 1 => trivial
  | 2 => trivial
  | 3 => trivial
  | 4 => trivial
  | 5 => trivial
  | 6 =>
    refine ⟨?_, ?_, ?_, ?_, ?_, ?_, ?_⟩
    · exact hf.1
    · exact hf.2.1
    · exact hf.2.2.1
    · exact hf.2.2.2.1.kept hst.2 (fun h => by have h1 := hm _ h; have h2 := hf.1; have h3 := hf.2.1; have h4 := hf.2.2.1; omega)
    · exact hf.2.2.2.2.1.kept hst.2 (fun h => by have h1 := hm _ h; have h2 := hf.1; have h3 := hf.2.1; have h4 := hf.2.2.1; omega)
    · exact hf.2.2.2.2.2.1.kept hst.2 (fun h => by have h1 := hm _ h; have h2 := hf.1; have h3 := hf.2.1; have h4 := hf.2.2.1; omega)
    · refine hf.2.2.2.2.2.2.kept hst.2 ?_
      intro h
      unfold r38NoMods at h
      split at h <;> first | exact absurd rfl hne | exact hni (by decide) | (simp at h; done) | (simp at h; omega)
  | 7 =>
    refine hf.kept hst.2 ?_
    intro h
    unfold r38NoMods at h
    split at h <;> first | exact absurd rfl hne | exact hni (by decide) | (simp at h; done) | (simp at h; omega)
  | 8 => trivial
  | n + 9 => trivial
theorem r38No_hGs (B N pb eb ib sb i c nb : Nat) (ll loc lr src : Int) (C : Array Value) (hBN : B + 4 ≤ N) (hsB : sb < B) (W : World) : ∀ ii L α u u', L ii = false → (∀ j, L j = true → ∀ i, i ∈ r38NoAnc j → L i = true) → (∀ j, j ∈ r38NoAnc ii → L j = true) → r38NoStep B N pb eb ib sb i c nb ll loc lr src C ii α u u' → r38NoG B N pb eb ib sb i c nb ll loc lr src C W L u → r38NoG B N pb eb ib sb i c nb ll loc lr src C W (Rega.ran L ii) u' := by
  intro ii L α u u' hLi hcl hai hst hG
  obtain ⟨hk, g0, g1⟩ := hG
  refine ⟨hk.trans (hst.2.mono (fun x hx => by unfold r38NoMods at hx; split at hx <;> simp at hx <;> simp [hx])), ?_, ?_⟩
  · intro hg
    have hik : ii ≠ 6 := by rintro rfl; simp [Rega.ran] at hg
    have hLn : L 6 = false := by simpa [Rega.ran, Ne.symm hik] using hg
    refine (g0 hLn).kept hst.2 ?_
    intro h
    unfold r38NoMods at h
    split at h <;> first | exact absurd rfl hik | exact absurd (hai 6 (by decide)) (by rw [hLn]; decide) | (simp at h; done) | (simp at h; omega)
  · intro hg
    have hik : ii ≠ 7 := by rintro rfl; simp [Rega.ran] at hg
    have hLn : L 7 = false := by simpa [Rega.ran, Ne.symm hik] using hg
    refine (g1 hLn).kept hst.2 ?_
    intro h
    unfold r38NoMods at h
    split at h <;> first | exact absurd rfl hik | exact absurd (hai 7 (by decide)) (by rw [hLn]; decide) | (simp at h; done) | (simp at h; omega)

set_option maxRecDepth 100000 in
set_option maxHeartbeats 1000000 in
theorem low38No (pb sb n cap i c ib eb nb : Nat) (x src ll loc lr : Int) (C : Array Value) (w : World) (hP : ParAt w pb sb n cap) (hi : i < n) (hn : n ≤ 4294967295) (hne : pb ≠ sb)
    (hx : w.cell? ⟨pb, 23, none⟩ = some (.int .u64 x)) (hx1 : (bits BinOp.and IntKind.u64 x 137438953472 != 0) = true) (hx2 : (bits BinOp.and IntKind.u64 x 4398046511104 != 0) = false)
    (hC : Base.RowAt w sb 223 C) (hc : C[i * 10 + 4]? = some (.int .u32 (c : Int))) (hcm : c < 4294967293)
    (ri : Base.RowAt w ib 214 #[.int .u32 src, .int .u32 (i : Int), .bool false, .bool false, .bool false]) (hib : ib ≠ sb)
    (re : Base.RowAt w eb 47 #[.iface 55 (.pointer (some ⟨ib, 0, none⟩)), .int .i32 ll, .iface 36 (.pointer (some ⟨nb, 0, none⟩)), .int .i32 lr, .int .u8 0, .bool false]) (heb : eb ≠ sb) :
    Calls Tryd.prog 38 #[.pointer (some ⟨pb, 0, none⟩), .agg #[.int .i32 loc], .pointer (some ⟨eb, 0, none⟩)] w fun e w' => ∃ v, e = .returned (.tuple #[v, .bool true]) ∧ LowIdLogical sb i c ib 36 nb src ll loc 30 lr C w (.returned v) w' := by
  have e0 : w.cell? ⟨eb, 0, none⟩ = some (.iface 55 (.pointer (some ⟨ib, 0, none⟩))) := re.cell rfl
  have e1 : w.cell? ⟨eb, 1, none⟩ = some (.int .i32 ll) := re.cell rfl
  have e2 : w.cell? ⟨eb, 2, none⟩ = some (.iface 36 (.pointer (some ⟨nb, 0, none⟩))) := re.cell rfl
  have e3 : w.cell? ⟨eb, 3, none⟩ = some (.int .i32 lr) := re.cell rfl
  have Hc := Lib.hid hc
  have hpriv := fun u => noPriv (.pointer (some ⟨pb, 0, none⟩)) 55 ib ll u (by decide)
  have lsb := hC.lt
  have lib := ri.lt
  have lpb := hP.lt
  have HP := Lib.hid hP
  have HC := Lib.hid hC
  have HI := Lib.hid ri
  have HE := Lib.hid re
  clear hc hP hC ri re
  have le := Base.block_of_cell e0
  have lx := Base.block_of_cell hx
  go_enter Tryd.func38, Tryd.ntmps38
  go_wp2
  generalize hW : World.alloc _ _ = W
  have hz : w.heap.size + 4 ≤ W.heap.size := by rw [← hW]; simp <;> omega
  have hbW : Below w.heap.size w W := by rw [← hW]; go_grown
  have r0 : Base.RowAt W (w.heap.size) 23 #[.pointer (some ⟨pb, 0, none⟩)] := by
    rw [← hW]
    repeat (first | (refine Base.RowAt.new' _ _ _ _ ?_; simp; done) | refine Base.RowAt.drew ?_ | refine Base.RowAt.alloc ?_ _)
  have r1 : Base.RowAt W (w.heap.size + 1) 32 #[.int .i32 loc] := by
    rw [← hW]
    repeat (first | (refine Base.RowAt.new' _ _ _ _ ?_; simp; done) | refine Base.RowAt.drew ?_ | refine Base.RowAt.alloc ?_ _)
  have r2 : Base.RowAt W (w.heap.size + 1 + 1) 41 #[.pointer (some ⟨eb, 0, none⟩)] := by
    rw [← hW]
    repeat (first | (refine Base.RowAt.new' _ _ _ _ ?_; simp; done) | refine Base.RowAt.drew ?_ | refine Base.RowAt.alloc ?_ _)
  have r3 : Base.RowAt W (w.heap.size + 1 + 1 + 1) 34 #[.nilIface, .int .i32 0] := by
    rw [← hW]
    repeat (first | (refine Base.RowAt.new' _ _ _ _ ?_; simp; done) | refine Base.RowAt.drew ?_ | refine Base.RowAt.alloc ?_ _)
  clear hW
  obtain ⟨B, hB⟩ : ∃ B, B = w.heap.size := ⟨_, rfl⟩
  obtain ⟨N, hNe⟩ : ∃ N, N = W.heap.size := ⟨_, rfl⟩
  have hNW : N ≤ W.heap.size := Nat.le_of_eq hNe
  have hBN : B + 4 ≤ N := by omega
  have HNe := Lib.hid hNe
  rw [← hB] at r0 r1 r2 r3 ⊢
  have HB := Lib.hid hB
  clear hB hNe
  have hWN : W.heap.size ≤ N := Nat.le_of_eq HNe.out.symm
  have e0' := Base.cell_below hbW le e0
  have e1' := Base.cell_below hbW le e1
  have hEb : eb < B := by have := HB.out; omega
  have e0w := e0
  clear e0 e1
  have e0 := e0'
  have e1 := e1'
  refine Rega.wp_region_atoms (e := r38E B N pb eb 55 ib ll loc) (F := r38F B N pb eb 55 ib ll loc) (anc := r38Anc) (G := r38G B N pb eb 55 ib ll loc W) (Step := r38Step B N pb eb 55 ib ll loc) (by kernel_rfl) (by kernel_rfl) (by kernel_rfl) (by kernel_rfl) (r38_he B N pb eb 55 ib ll loc) (r38_hF B N pb eb 55 ib ll loc) (r38_hFs B N pb eb 55 ib ll loc hBN) (r38_hGs B N pb eb 55 ib ll loc hBN W hWN) ((Base.KeptBut.refl _ _).drew) (Rega.RunsAll.all ?_) ?_
  · refine ⟨?_, ?_, ?_, ?_, ?_, ?_, ?_, ?_, ?_, ?_, ?_, ?_, ?_, ?_, ?_, trivial⟩
    · intro L α a u K hL hcl hG hA hS h0 hK
      have q3 : a.tmps[3]? = some (.pointer (some ⟨B, 0, none⟩)) := (h0 3 (by kernel_rfl)).trans rfl
      have s3 := Rega.eval_of q3
      have c0 : u.cell? ⟨B, 0, none⟩ = some (.pointer (some ⟨pb, 0, none⟩)) := hG.cell_some (r0.cell rfl) (by simp <;> omega)
      go_simp
      exact hK _ α _ (fun _ _ => rfl) rfl trivial ⟨by decide, .refl _ _, fun e => absurd e (by decide), fun e => absurd e (by decide)⟩
    · intro L α a u K hL hcl hG hA hS h0 hK
      have q5 : a.tmps[5]? = some (.pointer (some ⟨B + 1 + 1, 0, none⟩)) := (h0 5 (by kernel_rfl)).trans rfl
      have s5 := Rega.eval_of q5
      have c0 : u.cell? ⟨B + 1 + 1, 0, none⟩ = some (.pointer (some ⟨eb, 0, none⟩)) := hG.cell_some (r2.cell rfl) (by simp <;> omega)
      go_simp
      exact hK _ α _ (fun _ _ => rfl) rfl trivial ⟨by decide, .refl _ _, fun e => absurd e (by decide), fun e => absurd e (by decide)⟩
    · intro L α a u K hL hcl hG hA hS h0 hK
      have q19 : a.tmps[19]? = some (.pointer (some ⟨eb, 0, none⟩)) := hS 1 19 (by decide) rfl (by show 19 < 111; decide)
      have s19 := Rega.eval_of q19
      go_simp
      exact hK _ α _ (fun _ _ => rfl) rfl trivial ⟨by decide, .refl _ _, fun e => absurd e (by decide), fun e => absurd e (by decide)⟩
    · intro L α a u K hL hcl hG hA hS h0 hK
      have q20 : a.tmps[20]? = some (.pointer (some ⟨eb, 0, none⟩)) := hS 2 20 (by decide) rfl (by show 20 < 111; decide)
      have s20 := Rega.eval_of q20
      go_simp
      exact hK _ α _ (fun _ _ => rfl) rfl trivial ⟨by decide, .refl _ _, fun e => absurd e (by decide), fun e => absurd e (by decide)⟩
    · intro L α a u K hL hcl hG hA hS h0 hK
      have q21 : a.tmps[21]? = some (.pointer (some ⟨eb, 0, none⟩)) := hS 3 21 (by decide) rfl (by show 21 < 111; decide)
      have s21 := Rega.eval_of q21
      have c0 : u.cell? ⟨eb, 0, none⟩ = some (.iface 55 (.pointer (some ⟨ib, 0, none⟩))) := hG.cell_some e0 (by simp <;> omega)
      have c1 : u.cell? ⟨eb, 1, none⟩ = some (.int .i32 ll) := hG.cell_some e1 (by simp <;> omega)
      go_simp
      exact hK _ α _ (fun _ _ => rfl) rfl trivial ⟨by decide, .refl _ _, fun e => absurd e (by decide), fun e => absurd e (by decide)⟩
    · intro L α a u K hL hcl hG hA hS h0 hK
      have q18 : a.tmps[18]? = some (.pointer (some ⟨pb, 0, none⟩)) := hS 0 18 (by decide) rfl (by show 18 < 111; decide)
      have s18 := Rega.eval_of q18
      have q22 : a.tmps[22]? = some (.agg #[.iface 55 (.pointer (some ⟨ib, 0, none⟩)), .int .i32 ll]) := hS 4 22 (by decide) rfl (by show 22 < 111; decide)
      have s22 := Rega.eval_of q22
      go_simp
      refine Calls.mono (hpriv _) ?_
      rintro e u1 ⟨rfl, hb⟩
      exact hK _ α _ (fun _ _ => rfl) rfl trivial ⟨by decide, Base.KeptBut.of_below hb, fun e => absurd e (by decide), fun e => absurd e (by decide)⟩
    · intro L α a u K hL hcl hG hA hS h0 hK
      have q23 : a.tmps[23]? = some (.tuple #[.agg #[.nilIface, .int .i32 0], .agg #[.int .i32 0], .pointer none]) := hS 5 23 (by decide) rfl (by show 23 < 111; decide)
      have s23 := Rega.eval_of q23
      go_simp
      exact hK _ α _ (fun _ _ => rfl) rfl trivial ⟨by decide, .refl _ _, fun e => absurd e (by decide), fun e => absurd e (by decide)⟩
    · intro L α a u K hL hcl hG hA hS h0 hK
      have q17 : a.tmps[17]? = some (.tuple #[.agg #[.nilIface, .int .i32 0], .agg #[.int .i32 0], .pointer none]) := hS 6 17 (by decide) rfl (by show 17 < 111; decide)
      have s17 := Rega.eval_of q17
      go_simp
      exact hK _ α _ (fun _ _ => rfl) rfl trivial ⟨by decide, .refl _ _, fun e => absurd e (by decide), fun e => absurd e (by decide)⟩
    · intro L α a u K hL hcl hG hA hS h0 hK
      have q17 : a.tmps[17]? = some (.tuple #[.agg #[.nilIface, .int .i32 0], .agg #[.int .i32 0], .pointer none]) := hS 6 17 (by decide) rfl (by show 17 < 111; decide)
      have s17 := Rega.eval_of q17
      go_simp
      exact hK _ α _ (fun _ _ => rfl) rfl trivial ⟨by decide, .refl _ _, fun e => absurd e (by decide), fun e => absurd e (by decide)⟩
    · intro L α a u K hL hcl hG hA hS h0 hK
      have q17 : a.tmps[17]? = some (.tuple #[.agg #[.nilIface, .int .i32 0], .agg #[.int .i32 0], .pointer none]) := hS 6 17 (by decide) rfl (by show 17 < 111; decide)
      have s17 := Rega.eval_of q17
      go_simp
      exact hK _ α _ (fun _ _ => rfl) rfl trivial ⟨by decide, .refl _ _, fun e => absurd e (by decide), fun e => absurd e (by decide)⟩
    · intro L α a u K hL hcl hG hA hS h0 hK
      go_simp
      exact hK _ (fun j => if j = 10 then u.heap.size else α j) _ (fun j hj => if_neg (by omega)) rfl ⟨Nat.le_trans hNW hG.size, fun _ => Base.RowAt.new u _ _⟩ ⟨by decide, (Base.KeptBut.refl _ _).alloc _, fun e => absurd e (by decide), fun e => absurd e (by decide)⟩
    · intro L α a u K hL hcl hG hA hS h0 hK
      go_simp
      exact hK _ (fun j => if j = 11 then u.heap.size else α j) _ (fun j hj => if_neg (by omega)) rfl ⟨Nat.le_trans hNW hG.size, fun _ => Base.RowAt.new u _ _⟩ ⟨by decide, (Base.KeptBut.refl _ _).alloc _, fun e => absurd e (by decide), fun e => absurd e (by decide)⟩
    · intro L α a u K hL hcl hG hA hS h0 hK
      have q8 : a.tmps[8]? = some (.pointer (some ⟨α 10, 0, none⟩)) := hS 10 8 (by decide) rfl (by show 8 < 111; decide)
      have s8 := Rega.eval_of q8
      have q24 : a.tmps[24]? = some (.agg #[.nilIface, .int .i32 0]) := hS 7 24 (by decide) rfl (by show 24 < 111; decide)
      have s24 := Rega.eval_of q24
      have hr := (hA 10 (by decide)).2.2 hL
      have hlo := (hA 10 (by decide)).2.1
      have x0 : u.cell? ⟨α 10, 0, none⟩ = some (.nilIface) := hr.cell rfl
      have y0 : u.frozen? ⟨α 10, 0, none⟩ = false := hr.free 0
      have x1 : u.cell? ⟨α 10, 1, none⟩ = some (.int .i32 0) := hr.cell rfl
      have y1 : u.frozen? ⟨α 10, 1, none⟩ = false := hr.free 1
      have HR := Lib.hid hr
      clear hr
      go_simp
      exact hK _ α _ (fun _ _ => rfl) rfl ⟨hlo, ((HR.out.set 0 _).set 1 _)⟩ ⟨by decide, ((Base.KeptBut.refl _ _).setCell (Or.inl (by simp [r38Mods, r38Late])) _).setCell (Or.inl (by simp [r38Mods, r38Late])) _, fun _ => ⟨hlo, HR.out⟩, fun e => absurd e (by decide)⟩
    · intro L α a u K hL hcl hG hA hS h0 hK
      have q9 : a.tmps[9]? = some (.pointer (some ⟨α 11, 0, none⟩)) := hS 11 9 (by decide) rfl (by show 9 < 111; decide)
      have s9 := Rega.eval_of q9
      have q25 : a.tmps[25]? = some (.agg #[.int .i32 0]) := hS 8 25 (by decide) rfl (by show 25 < 111; decide)
      have s25 := Rega.eval_of q25
      have hr := (hA 11 (by decide)).2.2 hL
      have hlo := (hA 11 (by decide)).2.1
      have x0 : u.cell? ⟨α 11, 0, none⟩ = some (.int .i32 0) := hr.cell rfl
      have y0 : u.frozen? ⟨α 11, 0, none⟩ = false := hr.free 0
      have HR := Lib.hid hr
      clear hr
      go_simp
      exact hK _ α _ (fun _ _ => rfl) rfl ⟨hlo, (HR.out.set 0 _)⟩ ⟨by decide, (Base.KeptBut.refl _ _).setCell (Or.inl (by simp [r38Mods, r38Late])) _, fun e => absurd e (by decide), fun _ => ⟨hlo, HR.out⟩⟩
    · intro L α a u K hL hcl hG hA hS h0 hK
      have q26 : a.tmps[26]? = some (.pointer none) := hS 9 26 (by decide) rfl (by show 26 < 111; decide)
      have s26 := Rega.eval_of q26
      go_simp
      exact hK _ α _ (fun _ _ => rfl) rfl trivial ⟨by decide, .refl _ _, fun e => absurd e (by decide), fun e => absurd e (by decide)⟩
  · intro α u hG hF
    have f10_0 : N ≤ α 10 := (hF 10 (by decide)).1
    have f11_0 : N ≤ α 11 := (hF 11 (by decide)).1
    have f12_0 : N ≤ α 10 := (hF 12 (by decide)).1
    have f12_1 : Base.RowAt u (α 10) 34 #[.nilIface, .int .i32 0] := (hF 12 (by decide)).2
    have f13_0 : N ≤ α 11 := (hF 13 (by decide)).1
    have f13_1 : Base.RowAt u (α 11) 32 #[.int .i32 0] := (hF 13 (by decide)).2
    clear hF
    generalize hfr : Rega.frameAt _ _ _ _ _ = fr
    have hdf : fr = ⟨#[.pointer (some ⟨pb, 0, none⟩), .agg #[.int .i32 loc], .pointer (some ⟨eb, 0, none⟩), .pointer (some ⟨B, 0, none⟩), .pointer (some ⟨B + 1, 0, none⟩), .pointer (some ⟨B + 1 + 1, 0, none⟩), .pointer (some ⟨B + 1 + 1 + 1, 0, none⟩), .bool false, .pointer (some ⟨α 10, 0, none⟩), .pointer (some ⟨α 11, 0, none⟩), .pointer none, undef, undef, undef, undef, undef, undef, .tuple #[.agg #[.nilIface, .int .i32 0], .agg #[.int .i32 0], .pointer none], .pointer (some ⟨pb, 0, none⟩), .pointer (some ⟨eb, 0, none⟩), .pointer (some ⟨eb, 0, none⟩), .pointer (some ⟨eb, 0, none⟩), .agg #[.iface 55 (.pointer (some ⟨ib, 0, none⟩)), .int .i32 ll], .tuple #[.agg #[.nilIface, .int .i32 0], .agg #[.int .i32 0], .pointer none], .agg #[.nilIface, .int .i32 0], .agg #[.int .i32 0], .pointer none, undef, undef, undef, undef, undef, undef, undef, undef, undef, undef, undef, undef, undef, undef, undef, undef, undef, undef, undef, undef, undef, undef, undef, undef, undef, undef, undef, undef, undef, undef, undef, undef, undef, undef, undef, undef, undef, undef, undef, undef, undef, undef, undef, undef, undef, undef, undef, undef, undef, undef, undef, undef, undef, undef, undef, undef, undef, undef, undef, undef, undef, undef, undef, undef, undef, undef, undef, undef, undef, undef, undef, undef, undef, undef, undef, undef, undef, undef, undef, undef, undef, undef, undef, undef], []⟩ := by rw [← hfr]; kernel_rfl
    clear hfr
    subst hdf
    have hx1' := hG.cell_some (Base.cell_below hbW lx hx) (by simp)
    have r0 := r0.kept hG (by simp)
    have r1 := r1.kept hG (by simp)
    have r2 := r2.kept hG (by simp)
    have r3 := r3.kept hG (by simp)
    have e0 := hG.cell_some e0 (by simp)
    have e1 := hG.cell_some e1 (by simp)
    have c0 : u.cell? ⟨B, 0, none⟩ = some (.pointer (some ⟨pb, 0, none⟩)) := r0.cell rfl
    have c2 : u.cell? ⟨B + 1 + 1, 0, none⟩ = some (.pointer (some ⟨eb, 0, none⟩)) := r2.cell rfl
    have c3 : u.cell? ⟨B + 1 + 1 + 1, 0, none⟩ = some .nilIface := r3.cell rfl
    have c4 : u.cell? ⟨B + 1 + 1 + 1, 1, none⟩ = some (.int .i32 0) := r3.cell rfl
    have c5 := r3.free 0
    have c6 := r3.free 1
    have hkw : Base.KeptBut [] w u := (Base.KeptBut.of_below hbW).trans hG
    have Hkw := Lib.hid hkw
    have R0 := Lib.hid r0
    have R1 := Lib.hid r1
    have R2 := Lib.hid r2
    have R3 := Lib.hid r3
    have huN : N ≤ u.heap.size := Nat.le_trans hNW hG.size
    clear hkw hG r0 r1 r2 r3 f10_0 f11_0 f12_0 f12_1 f13_0 f13_1 hbW hWN hNW
    go_wp2_with (go_at_call 43; go_in)
    obtain ⟨u1, hu1⟩ : ∃ u1, u1 = u := ⟨_, rfl⟩
    rw [← hu1] at Hkw R0 R1 R2 R3 hx1' e0 e1 huN ⊢
    clear hu1
    have hP := HP.out.kept Hkw.out (by simp)
    have hC := HC.out.kept Hkw.out (by simp)
    have ri := HI.out.kept Hkw.out (by simp)
    have re := HE.out.kept Hkw.out (by simp)
    have e2 : u1.cell? ⟨eb, 2, none⟩ = some (.iface 36 (.pointer (some ⟨nb, 0, none⟩))) := re.cell rfl
    have e3 : u1.cell? ⟨eb, 3, none⟩ = some (.int .i32 lr) := re.cell rfl
    have r0 := R0.out
    have r1 := R1.out
    have r2 := R2.out
    have r3 := R3.out
    have hsB : sb < B := by have := HB.out; omega
    have hpB : pb < B := by have := HB.out; omega
    have hiB : ib < B := by have := HB.out; omega
    obtain ⟨M, hMe⟩ : ∃ M, M = u1.heap.size := ⟨_, rfl⟩
    have hNW : M ≤ u1.heap.size := Nat.le_of_eq hMe
    have hBM : B + 4 ≤ M := by omega
    have HMe := Lib.hid hMe
    clear hMe
    refine Rega.wp_region_atoms (e := r38NoE B M pb eb ib sb i c nb ll loc lr src C) (F := r38NoF B M pb eb ib sb i c nb ll loc lr src C) (anc := r38NoAnc) (G := r38NoG B M pb eb ib sb i c nb ll loc lr src C u1) (Step := r38NoStep B M pb eb ib sb i c nb ll loc lr src C) (by kernel_rfl) (by kernel_rfl) (by kernel_rfl) (by kernel_rfl) (r38No_he B M pb eb ib sb i c nb ll loc lr src C) (r38No_hF B M pb eb ib sb i c nb ll loc lr src C) (r38No_hFs B M pb eb ib sb i c nb ll loc lr src C hBM hsB) (r38No_hGs B M pb eb ib sb i c nb ll loc lr src C hBM hsB u1) ⟨(Base.KeptBut.refl _ _).drew, fun _ => hC.drew, fun _ => r3.drew⟩ (Rega.RunsAll.all ?_) ?_
    · refine ⟨?_, ?_, ?_, ?_, ?_, ?_, ?_, ?_, ?_, trivial⟩
      · intro L α a u K hL hcl hG hA hS h0 hK
        have q3 : a.tmps[3]? = some (.pointer (some ⟨B, 0, none⟩)) := (h0 3 (by kernel_rfl)).trans rfl
        have s3 := Rega.eval_of q3
        have c0 : u.cell? ⟨B, 0, none⟩ = some (.pointer (some ⟨pb, 0, none⟩)) := hG.1.cell_some (r0.cell rfl) (by simp <;> omega)
        go_simp
        exact hK _ α _ (fun _ _ => rfl) rfl trivial ⟨by decide, .refl _ _⟩
      · intro L α a u K hL hcl hG hA hS h0 hK
        have q5 : a.tmps[5]? = some (.pointer (some ⟨B + 1 + 1, 0, none⟩)) := (h0 5 (by kernel_rfl)).trans rfl
        have s5 := Rega.eval_of q5
        have c0 : u.cell? ⟨B + 1 + 1, 0, none⟩ = some (.pointer (some ⟨eb, 0, none⟩)) := hG.1.cell_some (r2.cell rfl) (by simp <;> omega)
        go_simp
        exact hK _ α _ (fun _ _ => rfl) rfl trivial ⟨by decide, .refl _ _⟩
      · intro L α a u K hL hcl hG hA hS h0 hK
        have q104 : a.tmps[104]? = some (.pointer (some ⟨eb, 0, none⟩)) := hS 1 104 (by decide) rfl (by show 104 < 111; decide)
        have s104 := Rega.eval_of q104
        go_simp
        exact hK _ α _ (fun _ _ => rfl) rfl trivial ⟨by decide, .refl _ _⟩
      · intro L α a u K hL hcl hG hA hS h0 hK
        have q105 : a.tmps[105]? = some (.pointer (some ⟨eb, 0, none⟩)) := hS 2 105 (by decide) rfl (by show 105 < 111; decide)
        have s105 := Rega.eval_of q105
        go_simp
        exact hK _ α _ (fun _ _ => rfl) rfl trivial ⟨by decide, .refl _ _⟩
      · intro L α a u K hL hcl hG hA hS h0 hK
        have q106 : a.tmps[106]? = some (.pointer (some ⟨eb, 0, none⟩)) := hS 3 106 (by decide) rfl (by show 106 < 111; decide)
        have s106 := Rega.eval_of q106
        have c0 : u.cell? ⟨eb, 0, none⟩ = some (.iface 55 (.pointer (some ⟨ib, 0, none⟩))) := hG.1.cell_some e0 (by simp <;> omega)
        have c1 : u.cell? ⟨eb, 1, none⟩ = some (.int .i32 ll) := hG.1.cell_some e1 (by simp <;> omega)
        go_simp
        exact hK _ α _ (fun _ _ => rfl) rfl trivial ⟨by decide, .refl _ _⟩
      · intro L α a u K hL hcl hG hA hS h0 hK
        have q3 : a.tmps[3]? = some (.pointer (some ⟨B, 0, none⟩)) := (h0 3 (by kernel_rfl)).trans rfl
        have s3 := Rega.eval_of q3
        have q4 : a.tmps[4]? = some (.pointer (some ⟨B + 1, 0, none⟩)) := (h0 4 (by kernel_rfl)).trans rfl
        have s4 := Rega.eval_of q4
        have q5 : a.tmps[5]? = some (.pointer (some ⟨B + 1 + 1, 0, none⟩)) := (h0 5 (by kernel_rfl)).trans rfl
        have s5 := Rega.eval_of q5
        go_simp
        exact hK _ α _ (fun _ _ => rfl) rfl trivial ⟨by decide, .refl _ _⟩
      · intro L α a u K hL hcl hG hA hS h0 hK
        have q103 : a.tmps[103]? = some (.pointer (some ⟨pb, 0, none⟩)) := hS 0 103 (by decide) rfl (by show 103 < 111; decide)
        have s103 := Rega.eval_of q103
        have q107 : a.tmps[107]? = some (.agg #[.iface 55 (.pointer (some ⟨ib, 0, none⟩)), .int .i32 ll]) := hS 4 107 (by decide) rfl (by show 107 < 111; decide)
        have s107 := Rega.eval_of q107
        have q108 : a.tmps[108]? = some (.func (Fn.func 49) #[] #[.pointer (some ⟨B, 0, none⟩), .pointer (some ⟨B + 1, 0, none⟩), .pointer (some ⟨B + 1 + 1, 0, none⟩)]) := hS 5 108 (by decide) rfl (by show 108 < 111; decide)
        have s108 := Rega.eval_of q108
        go_simp
        have hrs := (hG.2.1 hL)
        refine Calls.mono (lowIdNullNo pb sb n cap i c ib B (B + 1) (B + 1 + 1) eb 36 nb x src ll loc lr C _ (hP.kept hG.1 (by simp <;> omega)) hi hn hne (hG.1.cell_some hx1' (by simp <;> omega)) hrs Hc.out hcm (ri.kept hG.1 (by simp <;> omega)) hib (r1.kept hG.1 (by simp <;> omega)) (r0.kept hG.1 (by simp <;> omega)) (r2.kept hG.1 (by simp <;> omega)) (by omega) (by omega) (by omega) heb (hG.1.cell_some e2 (by simp <;> omega)) (hG.1.cell_some e3 (by simp <;> omega)) hx2) ?_
        rintro e u1 ⟨b, a1, xx, rfl, ⟨hk1, hk2⟩, hlo, hxa, hab, rb, ra, rx⟩
        have hN := Nat.le_trans hNW hG.1.size
        exact hK _ (fun j => if j = 6 then b else if j = 1000 + 6 then a1 else if j = 2000 + 6 then xx else α j) _ (fun j hj => by rw [if_neg (by omega), if_neg (by omega), if_neg (by omega)]) rfl ⟨Nat.le_trans hN hlo, hxa, hab, rb, ra, rx, hk2⟩ ⟨by decide, hk1⟩
      · intro L α a u K hL hcl hG hA hS h0 hK
        have q6 : a.tmps[6]? = some (.pointer (some ⟨B + 1 + 1 + 1, 0, none⟩)) := (h0 6 (by kernel_rfl)).trans rfl
        have s6 := Rega.eval_of q6
        have q109 : a.tmps[109]? = some (.agg #[.iface 41 (.pointer (some ⟨α 6, 0, none⟩)), .int .i32 loc]) := hS 6 109 (by decide) rfl (by show 109 < 111; decide)
        have s109 := Rega.eval_of q109
        have hr := (hG.2.2 hL)
        have x0 : u.cell? ⟨B + 1 + 1 + 1, 0, none⟩ = some (.nilIface) := hr.cell rfl
        have y0 : u.frozen? ⟨B + 1 + 1 + 1, 0, none⟩ = false := hr.free 0
        have x1 : u.cell? ⟨B + 1 + 1 + 1, 1, none⟩ = some (.int .i32 0) := hr.cell rfl
        have y1 : u.frozen? ⟨B + 1 + 1 + 1, 1, none⟩ = false := hr.free 1
        have HR := Lib.hid hr
        clear hr
        go_simp
        exact hK _ α _ (fun _ _ => rfl) rfl ((HR.out.set 0 _).set 1 _) ⟨by decide, ((Base.KeptBut.refl _ _).setCell (Or.inl (by simp [r38NoMods])) _).setCell (Or.inl (by simp [r38NoMods])) _⟩
      · intro L α a u K hL hcl hG hA hS h0 hK
        go_simp
        exact hK _ α _ (fun _ _ => rfl) rfl trivial ⟨by decide, .refl _ _⟩
    · intro α u hG hF
      have f6_0 : M ≤ α 2006 := (hF 6 (by decide)).1
      have f6_1 : α 2006 < α 1006 := (hF 6 (by decide)).2.1
      have f6_2 : α 1006 < α 6 := (hF 6 (by decide)).2.2.1
      have f6_3 : Base.RowAt u (α 6) 47 #[.iface 55 (.pointer (some ⟨α 2006, 0, none⟩)), .int .i32 ll, .iface 41 (.pointer (some ⟨α 1006, 0, none⟩)), .int .i32 ll, .int .u8 30, .bool false] := (hF 6 (by decide)).2.2.2.1
      have f6_4 : Base.RowAt u (α 1006) 47 #[.iface 55 (.pointer (some ⟨ib, 0, none⟩)), .int .i32 ll, .iface 36 (.pointer (some ⟨nb, 0, none⟩)), .int .i32 lr, .int .u8 37, .bool false] := (hF 6 (by decide)).2.2.2.2.1
      have f6_5 : Base.RowAt u (α 2006) 214 #[.int .u32 src, .int .u32 (i : Int), .bool false, .bool false, .bool false] := (hF 6 (by decide)).2.2.2.2.2.1
      have f6_6 : Base.RowAt u sb 223 (C.setIfInBounds (i * 10 + 4) (.int .u32 ((c + 1 : Nat) : Int))) := (hF 6 (by decide)).2.2.2.2.2.2
      have f7_0 : Base.RowAt u (B + 1 + 1 + 1) 34 #[.iface 41 (.pointer (some ⟨α 6, 0, none⟩)), .int .i32 loc] := (hF 7 (by decide))
      clear hF
      generalize hfr : Rega.frameAt _ _ _ _ _ = fr
      have q6 : fr.tmps[6]? = some (.pointer (some ⟨B + 1 + 1 + 1, 0, none⟩)) := by rw [← hfr]; kernel_rfl
      have q7 : fr.tmps[7]? = some (.bool true) := by rw [← hfr]; kernel_rfl
      have hdf : fr.defers = [] := by rw [← hfr]; kernel_rfl
      clear hfr
      have z0 : u.cell? ⟨B + 1 + 1 + 1, 0, none⟩ = some (.iface 41 (.pointer (some ⟨α 6, 0, none⟩))) := f7_0.cell rfl
      have z1 : u.cell? ⟨B + 1 + 1 + 1, 1, none⟩ = some (.int .i32 loc) := f7_0.cell rfl
      have HG := Lib.hid hG
      clear hG hC hP ri re r0 r1 r2 r3
      go_wp2
      have hB := HB.out
      have hMe := HMe.out
      have hkb := HG.out.1
      have hk0 := Hkw.out
      have hk : Base.KeptBut [sb] w u := by
        refine ⟨hkb.os.trans hk0.os, hkb.tape.trans hk0.tape, hkb.output.trans hk0.output, Nat.le_trans hk0.size hkb.size, fun k hk hn => ?_⟩
        exact (hkb.block k (by have := hk0.size; omega) (by simp at hn ⊢; omega)).trans (hk0.block k hk (by simp))
      have hs0 := hk0.size
      refine bodyPost_ret (v := .tuple #[.agg #[.iface 41 (.pointer (some ⟨α 6, 0, none⟩)), .int .i32 loc], .bool true]) ?_ hdf ?_
      · simp [results, Tryd.results38, go_sem, q6, q7, z0, z1]
      · exact ⟨_, rfl, α 6, α 1006, α 2006, rfl, ⟨hk, f6_6⟩, by omega, f6_1, f6_2, f6_3, f6_4, f6_5⟩
def r38YesE (B N pb eb ib sb i c nb : Nat) (ll loc lr src : Int) (C : Array Value) : Nat → Rega.Atoms → Value
  | 0, α => .pointer (some ⟨pb, 0, none⟩)
  | 1, α => .pointer (some ⟨eb, 0, none⟩)
  | 2, α => .pointer (some ⟨eb, 0, none⟩)
  | 3, α => .pointer (some ⟨eb, 0, none⟩)
  | 4, α => .agg #[.iface 55 (.pointer (some ⟨ib, 0, none⟩)), .int .i32 ll]
  | 5, α => .func (Fn.func 49) #[] #[.pointer (some ⟨B, 0, none⟩), .pointer (some ⟨B + 1, 0, none⟩), .pointer (some ⟨B + 1 + 1, 0, none⟩)]
  | 6, α => .agg #[.iface 39 (.pointer (some ⟨α 6, 0, none⟩)), .int .i32 loc]
  | 7, α => undef
  | 8, α => .bool true
  | _, _ => undef
def r38YesF (B N pb eb ib sb i c nb : Nat) (ll loc lr src : Int) (C : Array Value) : Nat → (Nat → Bool) → Rega.Atoms → World → Prop
  | 6, L, α, u => N ≤ α 5006 ∧ α 5006 < α 6 ∧ α 5006 < α 1006 ∧ α 5006 < α 2006 ∧ α 2006 < α 3006 ∧ N ≤ α 4006 ∧ Base.RowAt u (α 6) 44 #[.iface 41 (.pointer (some ⟨α 1006, 0, none⟩)), .int .i32 loc, .iface 55 (.pointer (some ⟨α 3006, 0, none⟩)), .int .i32 loc, .iface 41 (.pointer (some ⟨α 5006, 0, none⟩)), .int .i32 ll] ∧ Base.RowAt u (α 1006) 47 #[.iface 55 (.pointer (some ⟨α 2006, 0, none⟩)), .int .i32 loc, .iface 211 (.pointer (some ⟨α 4006, 0, none⟩)), .int .i32 loc, .int .u8 27, .bool false] ∧ Base.RowAt u (α 2006) 214 #[.int .u32 src, .int .u32 (i : Int), .bool false, .bool false, .bool false] ∧ Base.RowAt u (α 3006) 214 #[.int .u32 src, .int .u32 (i : Int), .bool false, .bool false, .bool false] ∧ Base.RowAt u (α 4006) 235 #[] ∧ Base.RowAt u (α 5006) 47 #[.iface 55 (.pointer (some ⟨ib, 0, none⟩)), .int .i32 ll, .iface 36 (.pointer (some ⟨nb, 0, none⟩)), .int .i32 lr, .int .u8 37, .bool false] ∧ Base.RowAt u sb 223 (((C.setIfInBounds (i * 10 + 4) (.int .u32 ((c + 1 : Nat) : Int))).setIfInBounds (i * 10 + 4) (.int .u32 ((c + 1 + 1 : Nat) : Int))).setIfInBounds (i * 10 + 4) (.int .u32 ((c + 1 + 1 + 1 : Nat) : Int)))
  | 7, L, α, u => Base.RowAt u (B + 1 + 1 + 1) 34 #[.iface 39 (.pointer (some ⟨α 6, 0, none⟩)), .int .i32 loc]
  | _, _, _, _ => True
def r38YesAnc : Nat → List Nat
  | 2 => [1]
  | 3 => [1, 2]
  | 4 => [1, 2, 3]
  | 6 => [0, 1, 2, 3, 4, 5]
  | 7 => [0, 1, 2, 3, 4, 5, 6]
  | 8 => [0, 1, 2, 3, 4, 5, 6, 7]
  | _ => []
def r38YesMods (B N pb eb ib sb i c nb : Nat) (ll loc lr src : Int) (C : Array Value) : Nat → List Nat
  | 6 => [sb]
  | 7 => [B + 1 + 1 + 1]
  | _ => []
def r38YesStep (B N pb eb ib sb i c nb : Nat) (ll loc lr src : Int) (C : Array Value) (ii : Nat) (_ : Rega.Atoms) (w w' : World) : Prop := ii < 9 ∧ Base.KeptBut (r38YesMods B N pb eb ib sb i c nb ll loc lr src C ii) w w'
def r38YesG (B N pb eb ib sb i c nb : Nat) (ll loc lr src : Int) (C : Array Value) (W : World) (L : Nat → Bool) (u : World) : Prop := Base.KeptBut [B + 1 + 1 + 1, sb] W u ∧ (L 6 = false → Base.RowAt u sb 223 C) ∧ (L 7 = false → Base.RowAt u (B + 1 + 1 + 1) 34 #[.nilIface, .int .i32 0])
theorem r38Yes_he (B N pb eb ib sb i c nb : Nat) (ll loc lr src : Int) (C : Array Value) : ∀ kk α α', (∀ j, (j % 1000 = kk ∨ j % 1000 ∈ r38YesAnc kk) → α j = α' j) → r38YesE B N pb eb ib sb i c nb ll loc lr src C kk α = r38YesE B N pb eb ib sb i c nb ll loc lr src C kk α' := by
  intro kk α α' h
  match kk with
  | 0 => rfl
  | 1 => rfl
  | 2 => rfl
  | 3 => rfl
  | 4 => rfl
  | 5 => rfl
  | 6 => simp only [r38YesE, h 6 (Or.inl rfl)]
  | 7 => rfl
  | 8 => rfl
  | n + 9 => rfl
theorem r38Yes_hF (B N pb eb ib sb i c nb : Nat) (ll loc lr src : Int) (C : Array Value) : ∀ kk L α α' u, (∀ j, (j % 1000 = kk ∨ j % 1000 ∈ r38YesAnc kk) → α j = α' j) → r38YesF B N pb eb ib sb i c nb ll loc lr src C kk L α u → r38YesF B N pb eb ib sb i c nb ll loc lr src C kk L α' u := by
  intro kk L α α' u h hf
  match kk with
  | 0 => trivial
  | 1 => trivial
  | 2 => trivial
  | 3 => trivial
  | 4 => trivial
  | 5 => trivial
  | 6 => simpa only [r38YesF, h 6 (Or.inl rfl), h 1006 (Or.inl rfl), h 2006 (Or.inl rfl), h 3006 (Or.inl rfl), h 4006 (Or.inl rfl), h 5006 (Or.inl rfl)] using hf
  | 7 => simpa only [r38YesF, h 6 (Or.inr (by decide))] using hf
  | 8 => trivial
  | n + 9 => trivial
theorem r38Yes_mods (B N pb eb ib sb i c nb : Nat) (ll loc lr src : Int) (C : Array Value) (hBN : B + 4 ≤ N) (hsB : sb < B) : ∀ ii xq, xq ∈ r38YesMods B N pb eb ib sb i c nb ll loc lr src C ii → xq < N := by
  intro ii xq hx
  unfold r38YesMods at hx
  split at hx <;> simp at hx <;> omega
theorem r38Yes_hFs (B N pb eb ib sb i c nb : Nat) (ll loc lr src : Int) (C : Array Value) (hBN : B + 4 ≤ N) (hsB : sb < B) : ∀ kk ii L α u u', ii ≠ kk → ii ∉ r38YesAnc kk → L kk = true → L ii = false → (∀ j, L j = true → ∀ i, i ∈ r38YesAnc j → L i = true) → (∀ j, j ∈ r38YesAnc ii → L j = true) → r38YesStep B N pb eb ib sb i c nb ll loc lr src C ii α u u' → r38YesF B N pb eb ib sb i c nb ll loc lr src C kk L α u → r38YesF B N pb eb ib sb i c nb ll loc lr src C kk (Rega.ran L ii) α u' := by
  intro kk ii L α u u' hne hni hLk hLi hcl hai hst hf
  have hm := r38Yes_mods B N pb eb ib sb i c nb ll loc lr src C hBN hsB ii
  match kk with
  | 0 => trivial
  | 1 => trivial
  | 2 => trivial
  | 3 => trivial
  | 4 => trivial
  | 5 => trivial
  | 6 =>
    refine ⟨?_, ?_, ?_, ?_, ?_, ?_, ?_, ?_, ?_, ?_, ?_, ?_, ?_⟩
    · exact hf.1
    · exact hf.2.1
    · exact hf.2.2.1
    · exact hf.2.2.2.1
    · exact hf.2.2.2.2.1
    · exact hf.2.2.2.2.2.1
    · exact hf.2.2.2.2.2.2.1.kept hst.2 (fun h => by have h1 := hm _ h; have h2 := hf.1; have h3 := hf.2.1; have h4 := hf.2.2.1; have h5 := hf.2.2.2.1; have h6 := hf.2.2.2.2.1; have h7 := hf.2.2.2.2.2.1; omega)
    · exact hf.2.2.2.2.2.2.2.1.kept hst.2 (fun h => by have h1 := hm _ h; have h2 := hf.1; have h3 := hf.2.1; have h4 := hf.2.2.1; have h5 := hf.2.2.2.1; have h6 := hf.2.2.2.2.1; have h7 := hf.2.2.2.2.2.1; omega)
    · exact hf.2.2.2.2.2.2.2.2.1.kept hst.2 (fun h => by have h1 := hm _ h; have h2 := hf.1; have h3 := hf.2.1; have h4 := hf.2.2.1; have h5 := hf.2.2.2.1; have h6 := hf.2.2.2.2.1; have h7 := hf.2.2.2.2.2.1; omega)
    · exact hf.2.2.2.2.2.2.2.2.2.1.kept hst.2 (fun h => by have h1 := hm _ h; have h2 := hf.1; have h3 := hf.2.1; have h4 := hf.2.2.1; have h5 := hf.2.2.2.1; have h6 := hf.2.2.2.2.1; have h7 := hf.2.2.2.2.2.1; omega)
    · exact hf.2.2.2.2.2.2.2.2.2.2.1.kept hst.2 (fun h => by have h1 := hm _ h; have h2 := hf.1; have h3 := hf.2.1; have h4 := hf.2.2.1; have h5 := hf.2.2.2.1; have h6 := hf.2.2.2.2.1; have h7 := hf.2.2.2.2.2.1; omega)
    · exact hf.2.2.2.2.2.2.2.2.2.2.2.1.kept hst.2 (fun h => by have h1 := hm _ h; have h2 := hf.1; have h3 := hf.2.1; have h4 := hf.2.2.1; have h5 := hf.2.2.2.1; have h6 := hf.2.2.2.2.1; have h7 := hf.2.2.2.2.2.1; omega)
    · refine hf.2.2.2.2.2.2.2.2.2.2.2.2.kept hst.2 ?_
      intro h
      unfold r38YesMods at h
      split at h <;> first | exact absurd rfl hne | exact hni (by decide) | (simp at h; done) | (simp at h; omega)
  | 7 =>
    refine hf.kept hst.2 ?_
    intro h
    unfold r38YesMods at h
    split at h <;> first | exact absurd rfl hne | exact hni (by decide) | (simp at h; done) | (simp at h; omega)
  | 8 => trivial
  | n + 9 => trivial
theorem r38Yes_hGs (B N pb eb ib sb i c nb : Nat) (ll loc lr src : Int) (C : Array Value) (hBN : B + 4 ≤ N) (hsB : sb < B) (W : World) : ∀ ii L α u u', L ii = false → (∀ j, L j = true → ∀ i, i ∈ r38YesAnc j → L i = true) → (∀ j, j ∈ r38YesAnc ii → L j = true) → r38YesStep B N pb eb ib sb i c nb ll loc lr src C ii α u u' → r38YesG B N pb eb ib sb i c nb ll loc lr src C W L u → r38YesG B N pb eb ib sb i c nb ll loc lr src C W (Rega.ran L ii) u' := by
  intro ii L α u u' hLi hcl hai hst hG
  obtain ⟨hk, g0, g1⟩ := hG
  refine ⟨hk.trans (hst.2.mono (fun x hx => by unfold r38YesMods at hx; split at hx <;> simp at hx <;> simp [hx])), ?_, ?_⟩
  · intro hg
    have hik : ii ≠ 6 := by rintro rfl; simp [Rega.ran] at hg
    have hLn : L 6 = false := by simpa [Rega.ran, Ne.symm hik] using hg
    refine (g0 hLn).kept hst.2 ?_
    intro h
    unfold r38YesMods at h
    split at h <;> first | exact absurd rfl hik | exact absurd (hai 6 (by decide)) (by rw [hLn]; decide) | (simp at h; done) | (simp at h; omega)
  · intro hg
    have hik : ii ≠ 7 := by rintro rfl; simp [Rega.ran] at hg
    have hLn : L 7 = false := by simpa [Rega.ran, Ne.symm hik] using hg
    refine (g1 hLn).kept hst.2 ?_
    intro h
    unfold r38YesMods at h
    split at h <;> first | exact absurd rfl hik | exact absurd (hai 7 (by decide)) (by rw [hLn]; decide) | (simp at h; done) | (simp at h; omega)

set_option maxRecDepth 100000 in
set_option maxHeartbeats 1000000 in
theorem low38Yes (pb sb n cap i c ib eb nb : Nat) (x src ll loc lr : Int) (C : Array Value) (w : World) (hP : ParAt w pb sb n cap) (hi : i < n) (hn : n ≤ 4294967295) (hne : pb ≠ sb)
    (hx : w.cell? ⟨pb, 23, none⟩ = some (.int .u64 x)) (hx1 : (bits BinOp.and IntKind.u64 x 137438953472 != 0) = true) (hx2 : (bits BinOp.and IntKind.u64 x 4398046511104 != 0) = true)
    (hC : Base.RowAt w sb 223 C) (hc : C[i * 10 + 4]? = some (.int .u32 (c : Int))) (hcm : c < 4294967293)
    (ri : Base.RowAt w ib 214 #[.int .u32 src, .int .u32 (i : Int), .bool false, .bool false, .bool false]) (hib : ib ≠ sb)
    (re : Base.RowAt w eb 47 #[.iface 55 (.pointer (some ⟨ib, 0, none⟩)), .int .i32 ll, .iface 36 (.pointer (some ⟨nb, 0, none⟩)), .int .i32 lr, .int .u8 0, .bool false]) (heb : eb ≠ sb) :
    Calls Tryd.prog 38 #[.pointer (some ⟨pb, 0, none⟩), .agg #[.int .i32 loc], .pointer (some ⟨eb, 0, none⟩)] w fun e w' => ∃ v, e = .returned (.tuple #[v, .bool true]) ∧ LowIdNullIf sb i c ib 36 nb loc ll lr src C w (.returned v) w' := by
  have e0 : w.cell? ⟨eb, 0, none⟩ = some (.iface 55 (.pointer (some ⟨ib, 0, none⟩))) := re.cell rfl
  have e1 : w.cell? ⟨eb, 1, none⟩ = some (.int .i32 ll) := re.cell rfl
  have e2 : w.cell? ⟨eb, 2, none⟩ = some (.iface 36 (.pointer (some ⟨nb, 0, none⟩))) := re.cell rfl
  have e3 : w.cell? ⟨eb, 3, none⟩ = some (.int .i32 lr) := re.cell rfl
  have Hc := Lib.hid hc
  have hpriv := fun u => noPriv (.pointer (some ⟨pb, 0, none⟩)) 55 ib ll u (by decide)
  have lsb := hC.lt
  have lib := ri.lt
  have lpb := hP.lt
  have HP := Lib.hid hP
  have HC := Lib.hid hC
  have HI := Lib.hid ri
  have HE := Lib.hid re
  clear hc hP hC ri re
  have le := Base.block_of_cell e0
  have lx := Base.block_of_cell hx
  go_enter Tryd.func38, Tryd.ntmps38
  go_wp2
  generalize hW : World.alloc _ _ = W
  have hz : w.heap.size + 4 ≤ W.heap.size := by rw [← hW]; simp <;> omega
  have hbW : Below w.heap.size w W := by rw [← hW]; go_grown
  have r0 : Base.RowAt W (w.heap.size) 23 #[.pointer (some ⟨pb, 0, none⟩)] := by
    rw [← hW]
    repeat (first | (refine Base.RowAt.new' _ _ _ _ ?_; simp; done) | refine Base.RowAt.drew ?_ | refine Base.RowAt.alloc ?_ _)
  have r1 : Base.RowAt W (w.heap.size + 1) 32 #[.int .i32 loc] := by
    rw [← hW]
    repeat (first | (refine Base.RowAt.new' _ _ _ _ ?_; simp; done) | refine Base.RowAt.drew ?_ | refine Base.RowAt.alloc ?_ _)
  have r2 : Base.RowAt W (w.heap.size + 1 + 1) 41 #[.pointer (some ⟨eb, 0, none⟩)] := by
    rw [← hW]
    repeat (first | (refine Base.RowAt.new' _ _ _ _ ?_; simp; done) | refine Base.RowAt.drew ?_ | refine Base.RowAt.alloc ?_ _)
  have r3 : Base.RowAt W (w.heap.size + 1 + 1 + 1) 34 #[.nilIface, .int .i32 0] := by
    rw [← hW]
    repeat (first | (refine Base.RowAt.new' _ _ _ _ ?_; simp; done) | refine Base.RowAt.drew ?_ | refine Base.RowAt.alloc ?_ _)
  clear hW
  obtain ⟨B, hB⟩ : ∃ B, B = w.heap.size := ⟨_, rfl⟩
  obtain ⟨N, hNe⟩ : ∃ N, N = W.heap.size := ⟨_, rfl⟩
  have hNW : N ≤ W.heap.size := Nat.le_of_eq hNe
  have hBN : B + 4 ≤ N := by omega
  have HNe := Lib.hid hNe
  rw [← hB] at r0 r1 r2 r3 ⊢
  have HB := Lib.hid hB
  clear hB hNe
  have hWN : W.heap.size ≤ N := Nat.le_of_eq HNe.out.symm
  have e0' := Base.cell_below hbW le e0
  have e1' := Base.cell_below hbW le e1
  have hEb : eb < B := by have := HB.out; omega
  have e0w := e0
  clear e0 e1
  have e0 := e0'
  have e1 := e1'
  refine Rega.wp_region_atoms (e := r38E B N pb eb 55 ib ll loc) (F := r38F B N pb eb 55 ib ll loc) (anc := r38Anc) (G := r38G B N pb eb 55 ib ll loc W) (Step := r38Step B N pb eb 55 ib ll loc) (by kernel_rfl) (by kernel_rfl) (by kernel_rfl) (by kernel_rfl) (r38_he B N pb eb 55 ib ll loc) (r38_hF B N pb eb 55 ib ll loc) (r38_hFs B N pb eb 55 ib ll loc hBN) (r38_hGs B N pb eb 55 ib ll loc hBN W hWN) ((Base.KeptBut.refl _ _).drew) (Rega.RunsAll.all ?_) ?_
  · refine ⟨?_, ?_, ?_, ?_, ?_, ?_, ?_, ?_, ?_, ?_, ?_, ?_, ?_, ?_, ?_, trivial⟩
    · intro L α a u K hL hcl hG hA hS h0 hK
      have q3 : a.tmps[3]? = some (.pointer (some ⟨B, 0, none⟩)) := (h0 3 (by kernel_rfl)).trans rfl
      have s3 := Rega.eval_of q3
      have c0 : u.cell? ⟨B, 0, none⟩ = some (.pointer (some ⟨pb, 0, none⟩)) := hG.cell_some (r0.cell rfl) (by simp <;> omega)
      go_simp
      exact hK _ α _ (fun _ _ => rfl) rfl trivial ⟨by decide, .refl _ _, fun e => absurd e (by decide), fun e => absurd e (by decide)⟩
    · intro L α a u K hL hcl hG hA hS h0 hK
      have q5 : a.tmps[5]? = some (.pointer (some ⟨B + 1 + 1, 0, none⟩)) := (h0 5 (by kernel_rfl)).trans rfl
      have s5 := Rega.eval_of q5
      have c0 : u.cell? ⟨B + 1 + 1, 0, none⟩ = some (.pointer (some ⟨eb, 0, none⟩)) := hG.cell_some (r2.cell rfl) (by simp <;> omega)
      go_simp
      exact hK _ α _ (fun _ _ => rfl) rfl trivial ⟨by decide, .refl _ _, fun e => absurd e (by decide), fun e => absurd e (by decide)⟩
    · intro L α a u K hL hcl hG hA hS h0 hK
      have q19 : a.tmps[19]? = some (.pointer (some ⟨eb, 0, none⟩)) := hS 1 19 (by decide) rfl (by show 19 < 111; decide)
      have s19 := Rega.eval_of q19
      go_simp
      exact hK _ α _ (fun _ _ => rfl) rfl trivial ⟨by decide, .refl _ _, fun e => absurd e (by decide), fun e => absurd e (by decide)⟩
    · intro L α a u K hL hcl hG hA hS h0 hK
      have q20 : a.tmps[20]? = some (.pointer (some ⟨eb, 0, none⟩)) := hS 2 20 (by decide) rfl (by show 20 < 111; decide)
      have s20 := Rega.eval_of q20
      go_simp
      exact hK _ α _ (fun _ _ => rfl) rfl trivial ⟨by decide, .refl _ _, fun e => absurd e (by decide), fun e => absurd e (by decide)⟩
    · intro L α a u K hL hcl hG hA hS h0 hK
      have q21 : a.tmps[21]? = some (.pointer (some ⟨eb, 0, none⟩)) := hS 3 21 (by decide) rfl (by show 21 < 111; decide)
      have s21 := Rega.eval_of q21
      have c0 : u.cell? ⟨eb, 0, none⟩ = some (.iface 55 (.pointer (some ⟨ib, 0, none⟩))) := hG.cell_some e0 (by simp <;> omega)
      have c1 : u.cell? ⟨eb, 1, none⟩ = some (.int .i32 ll) := hG.cell_some e1 (by simp <;> omega)
      go_simp
      exact hK _ α _ (fun _ _ => rfl) rfl trivial ⟨by decide, .refl _ _, fun e => absurd e (by decide), fun e => absurd e (by decide)⟩
    · intro L α a u K hL hcl hG hA hS h0 hK
      have q18 : a.tmps[18]? = some (.pointer (some ⟨pb, 0, none⟩)) := hS 0 18 (by decide) rfl (by show 18 < 111; decide)
      have s18 := Rega.eval_of q18
      have q22 : a.tmps[22]? = some (.agg #[.iface 55 (.pointer (some ⟨ib, 0, none⟩)), .int .i32 ll]) := hS 4 22 (by decide) rfl (by show 22 < 111; decide)
      have s22 := Rega.eval_of q22
      go_simp
      refine Calls.mono (hpriv _) ?_
      rintro e u1 ⟨rfl, hb⟩
      exact hK _ α _ (fun _ _ => rfl) rfl trivial ⟨by decide, Base.KeptBut.of_below hb, fun e => absurd e (by decide), fun e => absurd e (by decide)⟩
    · intro L α a u K hL hcl hG hA hS h0 hK
      have q23 : a.tmps[23]? = some (.tuple #[.agg #[.nilIface, .int .i32 0], .agg #[.int .i32 0], .pointer none]) := hS 5 23 (by decide) rfl (by show 23 < 111; decide)
      have s23 := Rega.eval_of q23
      go_simp
      exact hK _ α _ (fun _ _ => rfl) rfl trivial ⟨by decide, .refl _ _, fun e => absurd e (by decide), fun e => absurd e (by decide)⟩
    · intro L α a u K hL hcl hG hA hS h0 hK
      have q17 : a.tmps[17]? = some (.tuple #[.agg #[.nilIface, .int .i32 0], .agg #[.int .i32 0], .pointer none]) := hS 6 17 (by decide) rfl (by show 17 < 111; decide)
      have s17 := Rega.eval_of q17
      go_simp
      exact hK _ α _ (fun _ _ => rfl) rfl trivial ⟨by decide, .refl _ _, fun e => absurd e (by decide), fun e => absurd e (by decide)⟩
    · intro L α a u K hL hcl hG hA hS h0 hK
      have q17 : a.tmps[17]? = some (.tuple #[.agg #[.nilIface, .int .i32 0], .agg #[.int .i32 0], .pointer none]) := hS 6 17 (by decide) rfl (by show 17 < 111; decide)
      have s17 := Rega.eval_of q17
      go_simp
      exact hK _ α _ (fun _ _ => rfl) rfl trivial ⟨by decide, .refl _ _, fun e => absurd e (by decide), fun e => absurd e (by decide)⟩
    · intro L α a u K hL hcl hG hA hS h0 hK
      have q17 : a.tmps[17]? = some (.tuple #[.agg #[.nilIface, .int .i32 0], .agg #[.int .i32 0], .pointer none]) := hS 6 17 (by decide) rfl (by show 17 < 111; decide)
      have s17 := Rega.eval_of q17
      go_simp
      exact hK _ α _ (fun _ _ => rfl) rfl trivial ⟨by decide, .refl _ _, fun e => absurd e (by decide), fun e => absurd e (by decide)⟩
    · intro L α a u K hL hcl hG hA hS h0 hK
      go_simp
      exact hK _ (fun j => if j = 10 then u.heap.size else α j) _ (fun j hj => if_neg (by omega)) rfl ⟨Nat.le_trans hNW hG.size, fun _ => Base.RowAt.new u _ _⟩ ⟨by decide, (Base.KeptBut.refl _ _).alloc _, fun e => absurd e (by decide), fun e => absurd e (by decide)⟩
    · intro L α a u K hL hcl hG hA hS h0 hK
      go_simp
      exact hK _ (fun j => if j = 11 then u.heap.size else α j) _ (fun j hj => if_neg (by omega)) rfl ⟨Nat.le_trans hNW hG.size, fun _ => Base.RowAt.new u _ _⟩ ⟨by decide, (Base.KeptBut.refl _ _).alloc _, fun e => absurd e (by decide), fun e => absurd e (by decide)⟩
    · intro L α a u K hL hcl hG hA hS h0 hK
      have q8 : a.tmps[8]? = some (.pointer (some ⟨α 10, 0, none⟩)) := hS 10 8 (by decide) rfl (by show 8 < 111; decide)
      have s8 := Rega.eval_of q8
      have q24 : a.tmps[24]? = some (.agg #[.nilIface, .int .i32 0]) := hS 7 24 (by decide) rfl (by show 24 < 111; decide)
      have s24 := Rega.eval_of q24
      have hr := (hA 10 (by decide)).2.2 hL
      have hlo := (hA 10 (by decide)).2.1
      have x0 : u.cell? ⟨α 10, 0, none⟩ = some (.nilIface) := hr.cell rfl
      have y0 : u.frozen? ⟨α 10, 0, none⟩ = false := hr.free 0
      have x1 : u.cell? ⟨α 10, 1, none⟩ = some (.int .i32 0) := hr.cell rfl
      have y1 : u.frozen? ⟨α 10, 1, none⟩ = false := hr.free 1
      have HR := Lib.hid hr
      clear hr
      go_simp
      exact hK _ α _ (fun _ _ => rfl) rfl ⟨hlo, ((HR.out.set 0 _).set 1 _)⟩ ⟨by decide, ((Base.KeptBut.refl _ _).setCell (Or.inl (by simp [r38Mods, r38Late])) _).setCell (Or.inl (by simp [r38Mods, r38Late])) _, fun _ => ⟨hlo, HR.out⟩, fun e => absurd e (by decide)⟩
    · intro L α a u K hL hcl hG hA hS h0 hK
      have q9 : a.tmps[9]? = some (.pointer (some ⟨α 11, 0, none⟩)) := hS 11 9 (by decide) rfl (by show 9 < 111; decide)
      have s9 := Rega.eval_of q9
      have q25 : a.tmps[25]? = some (.agg #[.int .i32 0]) := hS 8 25 (by decide) rfl (by show 25 < 111; decide)
      have s25 := Rega.eval_of q25
      have hr := (hA 11 (by decide)).2.2 hL
      have hlo := (hA 11 (by decide)).2.1
      have x0 : u.cell? ⟨α 11, 0, none⟩ = some (.int .i32 0) := hr.cell rfl
      have y0 : u.frozen? ⟨α 11, 0, none⟩ = false := hr.free 0
      have HR := Lib.hid hr
      clear hr
      go_simp
      exact hK _ α _ (fun _ _ => rfl) rfl ⟨hlo, (HR.out.set 0 _)⟩ ⟨by decide, (Base.KeptBut.refl _ _).setCell (Or.inl (by simp [r38Mods, r38Late])) _, fun e => absurd e (by decide), fun _ => ⟨hlo, HR.out⟩⟩
    · intro L α a u K hL hcl hG hA hS h0 hK
      have q26 : a.tmps[26]? = some (.pointer none) := hS 9 26 (by decide) rfl (by show 26 < 111; decide)
      have s26 := Rega.eval_of q26
      go_simp
      exact hK _ α _ (fun _ _ => rfl) rfl trivial ⟨by decide, .refl _ _, fun e => absurd e (by decide), fun e => absurd e (by decide)⟩
  · intro α u hG hF
    have f10_0 : N ≤ α 10 := (hF 10 (by decide)).1
    have f11_0 : N ≤ α 11 := (hF 11 (by decide)).1
    have f12_0 : N ≤ α 10 := (hF 12 (by decide)).1
    have f12_1 : Base.RowAt u (α 10) 34 #[.nilIface, .int .i32 0] := (hF 12 (by decide)).2
    have f13_0 : N ≤ α 11 := (hF 13 (by decide)).1
    have f13_1 : Base.RowAt u (α 11) 32 #[.int .i32 0] := (hF 13 (by decide)).2
    clear hF
    generalize hfr : Rega.frameAt _ _ _ _ _ = fr
    have hdf : fr = ⟨#[.pointer (some ⟨pb, 0, none⟩), .agg #[.int .i32 loc], .pointer (some ⟨eb, 0, none⟩), .pointer (some ⟨B, 0, none⟩), .pointer (some ⟨B + 1, 0, none⟩), .pointer (some ⟨B + 1 + 1, 0, none⟩), .pointer (some ⟨B + 1 + 1 + 1, 0, none⟩), .bool false, .pointer (some ⟨α 10, 0, none⟩), .pointer (some ⟨α 11, 0, none⟩), .pointer none, undef, undef, undef, undef, undef, undef, .tuple #[.agg #[.nilIface, .int .i32 0], .agg #[.int .i32 0], .pointer none], .pointer (some ⟨pb, 0, none⟩), .pointer (some ⟨eb, 0, none⟩), .pointer (some ⟨eb, 0, none⟩), .pointer (some ⟨eb, 0, none⟩), .agg #[.iface 55 (.pointer (some ⟨ib, 0, none⟩)), .int .i32 ll], .tuple #[.agg #[.nilIface, .int .i32 0], .agg #[.int .i32 0], .pointer none], .agg #[.nilIface, .int .i32 0], .agg #[.int .i32 0], .pointer none, undef, undef, undef, undef, undef, undef, undef, undef, undef, undef, undef, undef, undef, undef, undef, undef, undef, undef, undef, undef, undef, undef, undef, undef, undef, undef, undef, undef, undef, undef, undef, undef, undef, undef, undef, undef, undef, undef, undef, undef, undef, undef, undef, undef, undef, undef, undef, undef, undef, undef, undef, undef, undef, undef, undef, undef, undef, undef, undef, undef, undef, undef, undef, undef, undef, undef, undef, undef, undef, undef, undef, undef, undef, undef, undef, undef, undef, undef, undef, undef, undef, undef, undef, undef], []⟩ := by rw [← hfr]; kernel_rfl
    clear hfr
    subst hdf
    have hx1' := hG.cell_some (Base.cell_below hbW lx hx) (by simp)
    have r0 := r0.kept hG (by simp)
    have r1 := r1.kept hG (by simp)
    have r2 := r2.kept hG (by simp)
    have r3 := r3.kept hG (by simp)
    have e0 := hG.cell_some e0 (by simp)
    have e1 := hG.cell_some e1 (by simp)
    have c0 : u.cell? ⟨B, 0, none⟩ = some (.pointer (some ⟨pb, 0, none⟩)) := r0.cell rfl
    have c2 : u.cell? ⟨B + 1 + 1, 0, none⟩ = some (.pointer (some ⟨eb, 0, none⟩)) := r2.cell rfl
    have c3 : u.cell? ⟨B + 1 + 1 + 1, 0, none⟩ = some .nilIface := r3.cell rfl
    have c4 : u.cell? ⟨B + 1 + 1 + 1, 1, none⟩ = some (.int .i32 0) := r3.cell rfl
    have c5 := r3.free 0
    have c6 := r3.free 1
    have hkw : Base.KeptBut [] w u := (Base.KeptBut.of_below hbW).trans hG
    have Hkw := Lib.hid hkw
    have R0 := Lib.hid r0
    have R1 := Lib.hid r1
    have R2 := Lib.hid r2
    have R3 := Lib.hid r3
    have huN : N ≤ u.heap.size := Nat.le_trans hNW hG.size
    clear hkw hG r0 r1 r2 r3 f10_0 f11_0 f12_0 f12_1 f13_0 f13_1 hbW hWN hNW
    go_wp2_with (go_at_call 43; go_in)
    obtain ⟨u1, hu1⟩ : ∃ u1, u1 = u := ⟨_, rfl⟩
    rw [← hu1] at Hkw R0 R1 R2 R3 hx1' e0 e1 huN ⊢
    clear hu1
    have hP := HP.out.kept Hkw.out (by simp)
    have hC := HC.out.kept Hkw.out (by simp)
    have ri := HI.out.kept Hkw.out (by simp)
    have re := HE.out.kept Hkw.out (by simp)
    have e2 : u1.cell? ⟨eb, 2, none⟩ = some (.iface 36 (.pointer (some ⟨nb, 0, none⟩))) := re.cell rfl
    have e3 : u1.cell? ⟨eb, 3, none⟩ = some (.int .i32 lr) := re.cell rfl
    have r0 := R0.out
    have r1 := R1.out
    have r2 := R2.out
    have r3 := R3.out
    have hsB : sb < B := by have := HB.out; omega
    have hpB : pb < B := by have := HB.out; omega
    have hiB : ib < B := by have := HB.out; omega
    obtain ⟨M, hMe⟩ : ∃ M, M = u1.heap.size := ⟨_, rfl⟩
    have hNW : M ≤ u1.heap.size := Nat.le_of_eq hMe
    have hBM : B + 4 ≤ M := by omega
    have HMe := Lib.hid hMe
    clear hMe
    refine Rega.wp_region_atoms (e := r38YesE B M pb eb ib sb i c nb ll loc lr src C) (F := r38YesF B M pb eb ib sb i c nb ll loc lr src C) (anc := r38YesAnc) (G := r38YesG B M pb eb ib sb i c nb ll loc lr src C u1) (Step := r38YesStep B M pb eb ib sb i c nb ll loc lr src C) (by kernel_rfl) (by kernel_rfl) (by kernel_rfl) (by kernel_rfl) (r38Yes_he B M pb eb ib sb i c nb ll loc lr src C) (r38Yes_hF B M pb eb ib sb i c nb ll loc lr src C) (r38Yes_hFs B M pb eb ib sb i c nb ll loc lr src C hBM hsB) (r38Yes_hGs B M pb eb ib sb i c nb ll loc lr src C hBM hsB u1) ⟨(Base.KeptBut.refl _ _).drew, fun _ => hC.drew, fun _ => r3.drew⟩ (Rega.RunsAll.all ?_) ?_
    · refine ⟨?_, ?_, ?_, ?_, ?_, ?_, ?_, ?_, ?_, trivial⟩
      · intro L α a u K hL hcl hG hA hS h0 hK
        have q3 : a.tmps[3]? = some (.pointer (some ⟨B, 0, none⟩)) := (h0 3 (by kernel_rfl)).trans rfl
        have s3 := Rega.eval_of q3
        have c0 : u.cell? ⟨B, 0, none⟩ = some (.pointer (some ⟨pb, 0, none⟩)) := hG.1.cell_some (r0.cell rfl) (by simp <;> omega)
        go_simp
        exact hK _ α _ (fun _ _ => rfl) rfl trivial ⟨by decide, .refl _ _⟩
      · intro L α a u K hL hcl hG hA hS h0 hK
        have q5 : a.tmps[5]? = some (.pointer (some ⟨B + 1 + 1, 0, none⟩)) := (h0 5 (by kernel_rfl)).trans rfl
        have s5 := Rega.eval_of q5
        have c0 : u.cell? ⟨B + 1 + 1, 0, none⟩ = some (.pointer (some ⟨eb, 0, none⟩)) := hG.1.cell_some (r2.cell rfl) (by simp <;> omega)
        go_simp
        exact hK _ α _ (fun _ _ => rfl) rfl trivial ⟨by decide, .refl _ _⟩
      · intro L α a u K hL hcl hG hA hS h0 hK
        have q104 : a.tmps[104]? = some (.pointer (some ⟨eb, 0, none⟩)) := hS 1 104 (by decide) rfl (by show 104 < 111; decide)
        have s104 := Rega.eval_of q104
        go_simp
        exact hK _ α _ (fun _ _ => rfl) rfl trivial ⟨by decide, .refl _ _⟩
      · intro L α a u K hL hcl hG hA hS h0 hK
        have q105 : a.tmps[105]? = some (.pointer (some ⟨eb, 0, none⟩)) := hS 2 105 (by decide) rfl (by show 105 < 111; decide)
        have s105 := Rega.eval_of q105
        go_simp
        exact hK _ α _ (fun _ _ => rfl) rfl trivial ⟨by decide, .refl _ _⟩
      · intro L α a u K hL hcl hG hA hS h0 hK
        have q106 : a.tmps[106]? = some (.pointer (some ⟨eb, 0, none⟩)) := hS 3 106 (by decide) rfl (by show 106 < 111; decide)
        have s106 := Rega.eval_of q106
        have c0 : u.cell? ⟨eb, 0, none⟩ = some (.iface 55 (.pointer (some ⟨ib, 0, none⟩))) := hG.1.cell_some e0 (by simp <;> omega)
        have c1 : u.cell? ⟨eb, 1, none⟩ = some (.int .i32 ll) := hG.1.cell_some e1 (by simp <;> omega)
        go_simp
        exact hK _ α _ (fun _ _ => rfl) rfl trivial ⟨by decide, .refl _ _⟩
      · intro L α a u K hL hcl hG hA hS h0 hK
        have q3 : a.tmps[3]? = some (.pointer (some ⟨B, 0, none⟩)) := (h0 3 (by kernel_rfl)).trans rfl
        have s3 := Rega.eval_of q3
        have q4 : a.tmps[4]? = some (.pointer (some ⟨B + 1, 0, none⟩)) := (h0 4 (by kernel_rfl)).trans rfl
        have s4 := Rega.eval_of q4
        have q5 : a.tmps[5]? = some (.pointer (some ⟨B + 1 + 1, 0, none⟩)) := (h0 5 (by kernel_rfl)).trans rfl
        have s5 := Rega.eval_of q5
        go_simp
        exact hK _ α _ (fun _ _ => rfl) rfl trivial ⟨by decide, .refl _ _⟩
      · intro L α a u K hL hcl hG hA hS h0 hK
        have q103 : a.tmps[103]? = some (.pointer (some ⟨pb, 0, none⟩)) := hS 0 103 (by decide) rfl (by show 103 < 111; decide)
        have s103 := Rega.eval_of q103
        have q107 : a.tmps[107]? = some (.agg #[.iface 55 (.pointer (some ⟨ib, 0, none⟩)), .int .i32 ll]) := hS 4 107 (by decide) rfl (by show 107 < 111; decide)
        have s107 := Rega.eval_of q107
        have q108 : a.tmps[108]? = some (.func (Fn.func 49) #[] #[.pointer (some ⟨B, 0, none⟩), .pointer (some ⟨B + 1, 0, none⟩), .pointer (some ⟨B + 1 + 1, 0, none⟩)]) := hS 5 108 (by decide) rfl (by show 108 < 111; decide)
        have s108 := Rega.eval_of q108
        go_simp
        have hrs := (hG.2.1 hL)
        refine Calls.mono (lowIdNullYes pb sb n cap i c ib B (B + 1) (B + 1 + 1) eb 36 nb x src ll loc lr C _ (hP.kept hG.1 (by simp <;> omega)) hi hn hne (hG.1.cell_some hx1' (by simp <;> omega)) hrs Hc.out hcm (ri.kept hG.1 (by simp <;> omega)) hib (r1.kept hG.1 (by simp <;> omega)) (r0.kept hG.1 (by simp <;> omega)) (r2.kept hG.1 (by simp <;> omega)) (by omega) (by omega) (by omega) heb (hG.1.cell_some e2 (by simp <;> omega)) (hG.1.cell_some e3 (by simp <;> omega)) hx2) ?_
        rintro e u1 ⟨bi, bt, b1, b2, bn, ba, rfl, hk2, hs2, hba, hai, hat, ha1, h12, hbn, ra, rb, rc, rd, re, rg⟩
        have hN := Nat.le_trans hNW hG.1.size
        exact hK _ (fun j => if j = 6 then bi else if j = 1000 + 6 then bt else if j = 2000 + 6 then b1 else if j = 3000 + 6 then b2 else if j = 4000 + 6 then bn else if j = 5000 + 6 then ba else α j) _ (fun j hj => by rw [if_neg (by omega), if_neg (by omega), if_neg (by omega), if_neg (by omega), if_neg (by omega), if_neg (by omega)]) rfl ⟨Nat.le_trans hN hba, hai, hat, ha1, h12, Nat.le_trans hN hbn, ra, rb, rc, rd, re, rg, hs2⟩ ⟨by decide, hk2⟩
      · intro L α a u K hL hcl hG hA hS h0 hK
        have q6 : a.tmps[6]? = some (.pointer (some ⟨B + 1 + 1 + 1, 0, none⟩)) := (h0 6 (by kernel_rfl)).trans rfl
        have s6 := Rega.eval_of q6
        have q109 : a.tmps[109]? = some (.agg #[.iface 39 (.pointer (some ⟨α 6, 0, none⟩)), .int .i32 loc]) := hS 6 109 (by decide) rfl (by show 109 < 111; decide)
        have s109 := Rega.eval_of q109
        have hr := (hG.2.2 hL)
        have x0 : u.cell? ⟨B + 1 + 1 + 1, 0, none⟩ = some (.nilIface) := hr.cell rfl
        have y0 : u.frozen? ⟨B + 1 + 1 + 1, 0, none⟩ = false := hr.free 0
        have x1 : u.cell? ⟨B + 1 + 1 + 1, 1, none⟩ = some (.int .i32 0) := hr.cell rfl
        have y1 : u.frozen? ⟨B + 1 + 1 + 1, 1, none⟩ = false := hr.free 1
        have HR := Lib.hid hr
        clear hr
        go_simp
        exact hK _ α _ (fun _ _ => rfl) rfl ((HR.out.set 0 _).set 1 _) ⟨by decide, ((Base.KeptBut.refl _ _).setCell (Or.inl (by simp [r38YesMods])) _).setCell (Or.inl (by simp [r38YesMods])) _⟩
      · intro L α a u K hL hcl hG hA hS h0 hK
        go_simp
        exact hK _ α _ (fun _ _ => rfl) rfl trivial ⟨by decide, .refl _ _⟩
    · intro α u hG hF
      have f6_0 : M ≤ α 5006 := (hF 6 (by decide)).1
      have f6_1 : α 5006 < α 6 := (hF 6 (by decide)).2.1
      have f6_2 : α 5006 < α 1006 := (hF 6 (by decide)).2.2.1
      have f6_3 : α 5006 < α 2006 := (hF 6 (by decide)).2.2.2.1
      have f6_4 : α 2006 < α 3006 := (hF 6 (by decide)).2.2.2.2.1
      have f6_5 : M ≤ α 4006 := (hF 6 (by decide)).2.2.2.2.2.1
      have f6_6 : Base.RowAt u (α 6) 44 #[.iface 41 (.pointer (some ⟨α 1006, 0, none⟩)), .int .i32 loc, .iface 55 (.pointer (some ⟨α 3006, 0, none⟩)), .int .i32 loc, .iface 41 (.pointer (some ⟨α 5006, 0, none⟩)), .int .i32 ll] := (hF 6 (by decide)).2.2.2.2.2.2.1
      have f6_7 : Base.RowAt u (α 1006) 47 #[.iface 55 (.pointer (some ⟨α 2006, 0, none⟩)), .int .i32 loc, .iface 211 (.pointer (some ⟨α 4006, 0, none⟩)), .int .i32 loc, .int .u8 27, .bool false] := (hF 6 (by decide)).2.2.2.2.2.2.2.1
      have f6_8 : Base.RowAt u (α 2006) 214 #[.int .u32 src, .int .u32 (i : Int), .bool false, .bool false, .bool false] := (hF 6 (by decide)).2.2.2.2.2.2.2.2.1
      have f6_9 : Base.RowAt u (α 3006) 214 #[.int .u32 src, .int .u32 (i : Int), .bool false, .bool false, .bool false] := (hF 6 (by decide)).2.2.2.2.2.2.2.2.2.1
      have f6_10 : Base.RowAt u (α 4006) 235 #[] := (hF 6 (by decide)).2.2.2.2.2.2.2.2.2.2.1
      have f6_11 : Base.RowAt u (α 5006) 47 #[.iface 55 (.pointer (some ⟨ib, 0, none⟩)), .int .i32 ll, .iface 36 (.pointer (some ⟨nb, 0, none⟩)), .int .i32 lr, .int .u8 37, .bool false] := (hF 6 (by decide)).2.2.2.2.2.2.2.2.2.2.2.1
      have f6_12 : Base.RowAt u sb 223 (((C.setIfInBounds (i * 10 + 4) (.int .u32 ((c + 1 : Nat) : Int))).setIfInBounds (i * 10 + 4) (.int .u32 ((c + 1 + 1 : Nat) : Int))).setIfInBounds (i * 10 + 4) (.int .u32 ((c + 1 + 1 + 1 : Nat) : Int))) := (hF 6 (by decide)).2.2.2.2.2.2.2.2.2.2.2.2
      have f7_0 : Base.RowAt u (B + 1 + 1 + 1) 34 #[.iface 39 (.pointer (some ⟨α 6, 0, none⟩)), .int .i32 loc] := (hF 7 (by decide))
      clear hF
      generalize hfr : Rega.frameAt _ _ _ _ _ = fr
      have q6 : fr.tmps[6]? = some (.pointer (some ⟨B + 1 + 1 + 1, 0, none⟩)) := by rw [← hfr]; kernel_rfl
      have q7 : fr.tmps[7]? = some (.bool true) := by rw [← hfr]; kernel_rfl
      have hdf : fr.defers = [] := by rw [← hfr]; kernel_rfl
      clear hfr
      have z0 : u.cell? ⟨B + 1 + 1 + 1, 0, none⟩ = some (.iface 39 (.pointer (some ⟨α 6, 0, none⟩))) := f7_0.cell rfl
      have z1 : u.cell? ⟨B + 1 + 1 + 1, 1, none⟩ = some (.int .i32 loc) := f7_0.cell rfl
      have HG := Lib.hid hG
      clear hG hC hP ri re r0 r1 r2 r3
      go_wp2
      have hB := HB.out
      have hMe := HMe.out
      have hkb := HG.out.1
      have hk0 := Hkw.out
      have hk : Base.KeptBut [sb] w u := by
        refine ⟨hkb.os.trans hk0.os, hkb.tape.trans hk0.tape, hkb.output.trans hk0.output, Nat.le_trans hk0.size hkb.size, fun k hk hn => ?_⟩
        exact (hkb.block k (by have := hk0.size; omega) (by simp at hn ⊢; omega)).trans (hk0.block k hk (by simp))
      have hs0 := hk0.size
      refine bodyPost_ret (v := .tuple #[.agg #[.iface 39 (.pointer (some ⟨α 6, 0, none⟩)), .int .i32 loc], .bool true]) ?_ hdf ?_
      · simp [results, Tryd.results38, go_sem, q6, q7, z0, z1]
      · exact ⟨_, rfl, α 6, α 1006, α 2006, α 3006, α 4006, α 5006, rfl, hk, f6_12, by omega, f6_1, f6_2, f6_3, f6_4, by omega, f6_6, f6_7, f6_8, f6_9, f6_10, f6_11⟩
end Go.Proofs.YtlgefnjkoklboaaDoor.Use
