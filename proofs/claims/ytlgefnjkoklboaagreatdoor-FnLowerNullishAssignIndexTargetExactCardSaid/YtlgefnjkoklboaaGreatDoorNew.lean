/- The parser that the laws start from, and the sum of its use counts. No condition. -/
import Derived.Test.YtlgefnjkoklboaaGreatDoorRows
import Derived.Test.YtlgefnjkoklboaaGreatDoorReg
import Derived.Test.YtlgefnjkoklboaaGreatDoorMaps
namespace Go.Proofs.YtlgefnjkoklboaaGreatDoor.l131
open Go.ChangeShapes Go.WideShapes Go.ChangeAt Go.RowKit Go.Sort
set_option linter.unusedVariables false
theorem Base.row_map {w : World} {b : Nat} {t : TypeId} {c : Array Value} {es : Array MapEntry} {k : Nat} (h : Base.RowAt w b t c) (h' : Base.MapAt w b es k) : False := by
  have := h.symm.trans h'
  cases this
/-- The parser's cells. -/
def parserCells (P : Program) (x : Int) (sl mp : Value) : Array Value := Base.builtOf P 178 [(0, (.agg (Base.builtOf P 91 [(7, (.agg (Base.builtOf P 78 [(2, .int .u64 x)])))]))), (9, sl), (20, mp)]
theorem info196 : (Tryz.prog.info? 196).map (fun i => (i.zero, i.size, i.bytes)) = some (some (.agg #[.pointer none, .string ⟨#[]⟩, .int .u32 0, .int .u32 0, .int .u32 0, .int .u32 0, .int .u32 0, .int .u16 0, .int .u8 0, .int .u8 0]), 10, 48) := by kernel_rfl
theorem makeSym (n : Nat) (hn : n ≤ 65537) (w : World) : (Instr.makeSlice 92 (.int .i64 (n : Int)) (.int .i64 (n : Int))).run Tryz.prog w = .ok (.slice (some ⟨w.heap.size, 0, none⟩) n n) (w.alloc (.cells (madeCells #[.pointer none, .string ⟨#[]⟩, .int .u32 0, .int .u32 0, .int .u32 0, .int .u32 0, .int .u32 0, .int .u16 0, .int .u8 0, .int .u8 0] (n * 10)) 196)) := by
  obtain ⟨i, hi, hzz⟩ := Option.map_eq_some_iff.1 info196
  simp only [Prod.mk.injEq] at hzz
  obtain ⟨hz, hs, hb⟩ := hzz
  have hr := run_make (P := Tryz.prog) w 92 196 i _ Tryz.underlying92 hi hz .i64 .i64 n n (by omega) (Int.le_refl _) (by rw [hb]; omega) (by omega)
  rw [hs, Int.toNat_natCast] at hr
  exact hr
def rNewE (P : Program) (B N : Nat) (x : Int) (n : Nat) (ps pi : Int) : Nat → Reg.Atoms → Value
  | 0, α => .int .u64 x
  | 1, α => .agg (Base.builtOf P 78 [(2, .int .u64 x)])
  | 2, α => .agg (Base.builtOf P 91 [(7, (.agg (Base.builtOf P 78 [(2, .int .u64 x)])))])
  | 3, α => .int .i64 (n : Int)
  | 4, α => .slice (some ⟨α 4, 0, none⟩) n n
  | 5, α => .map (some (α 5))
  | 6, α => .agg #[.int .u32 ps, .int .u32 pi]
  | 7, α => .agg #[.int .i32 0, .int .u32 ps, .int .u32 pi]
  | 8, α => undef
  | 9, α => .map (some (α 5))
  | 10, α => .agg (parserCells P x (.slice (some ⟨α 4, 0, none⟩) n n) (.map (some (α 5))))
  | 11, α => .pointer (some ⟨α 11, 0, none⟩)
  | 12, α => .pointer (some ⟨α 11, 0, none⟩)
  | _, _ => undef
def rNewF (P : Program) (B N : Nat) (x : Int) (n : Nat) (ps pi : Int) : Nat → (Nat → Bool) → Reg.Atoms → World → Prop
  | 4, L, α, w => Base.RowAt w (α 4) 196 (madeCells #[.pointer none, .string ⟨#[]⟩, .int .u32 0, .int .u32 0, .int .u32 0, .int .u32 0, .int .u32 0, .int .u16 0, .int .u8 0, .int .u8 0] (n * 10)) ∧ N ≤ α 4
  | 5, L, α, w => N ≤ α 5 ∧ (L 8 = false → Base.MapAt w (α 5) #[] 0)
  | 8, L, α, w => Base.MapAt w (α 5) #[⟨.string ⟨#[95, 95, 112, 111, 119]⟩, .agg #[.int .i32 0, .int .u32 ps, .int .u32 pi], 0⟩] 1 ∧ N ≤ α 5
  | 11, L, α, w => Base.RowAt w (α 11) 178 (parserCells P x (.slice (some ⟨α 4, 0, none⟩) n n) (.map (some (α 5)))) ∧ N ≤ α 11 ∧ α 4 < α 11 ∧ α 5 < α 11
  | _, _, _, _ => True
def rNewAnc : Nat → List Nat
  | 1 => [0]
  | 2 => [0, 1]
  | 4 => [3]
  | 7 => [6]
  | 8 => [5, 6, 7]
  | 9 => [5, 6, 7, 8]
  | 10 => [0, 1, 2, 3, 4, 5, 6, 7, 8, 9]
  | 11 => [0, 1, 2, 3, 4, 5, 6, 7, 8, 9, 10]
  | 12 => [0, 1, 2, 3, 4, 5, 6, 7, 8, 9, 10, 11]
  | _ => []
def rNewStep (P : Program) (B N : Nat) (x : Int) (n : Nat) (ps pi : Int) (i : Nat) (α : Reg.Atoms) (w w' : World) : Prop := i < 13 ∧ (i = 8 → Base.MapAt w (α 5) #[] 0 ∧ N ≤ α 5) ∧ Base.KeptBut (if i = 8 then [α 5] else []) w w'
def rNewG (P : Program) (B N : Nat) (x : Int) (n : Nat) (ps pi : Int) (W : World) (L : Nat → Bool) (u : World) : Prop := Base.KeptBut [] W u
theorem rNew_he (P : Program) (B N : Nat) (x : Int) (n : Nat) (ps pi : Int) : ∀ k α α', (∀ j, (j = k ∨ j ∈ rNewAnc k) → α j = α' j) → rNewE P B N x n ps pi k α = rNewE P B N x n ps pi k α' := by
  intro k α α' h
  match k with
  | 0 => rfl
  | 1 => rfl
  | 2 => rfl
  | 3 => rfl
  | 4 => simp only [rNewE, h 4 (Or.inl rfl)]
  | 5 => simp only [rNewE, h 5 (Or.inl rfl)]
  | 6 => rfl
  | 7 => rfl
  | 8 => rfl
  | 9 => simp only [rNewE, h 5 (Or.inr (by decide))]
  | 10 => simp only [rNewE, h 4 (Or.inr (by decide)), h 5 (Or.inr (by decide))]
  | 11 => simp only [rNewE, h 11 (Or.inl rfl)]
  | 12 => simp only [rNewE, h 11 (Or.inr (by decide))]
  | n + 13 => rfl
theorem rNew_hF (P : Program) (B N : Nat) (x : Int) (n : Nat) (ps pi : Int) : ∀ k L α α' u, (∀ j, (j = k ∨ j ∈ rNewAnc k) → α j = α' j) → rNewF P B N x n ps pi k L α u → rNewF P B N x n ps pi k L α' u := by
  intro k L α α' u h hf
  match k with
  | 0 => trivial
  | 1 => trivial
  | 2 => trivial
  | 3 => trivial
  | 4 => simpa only [rNewF, h 4 (Or.inl rfl)] using hf
  | 5 => simpa only [rNewF, h 5 (Or.inl rfl)] using hf
  | 6 => trivial
  | 7 => trivial
  | 8 => simpa only [rNewF, h 5 (Or.inr (by decide))] using hf
  | 9 => trivial
  | 10 => trivial
  | 11 => simpa only [rNewF, h 4 (Or.inr (by decide)), h 5 (Or.inr (by decide)), h 11 (Or.inl rfl)] using hf
  | 12 => trivial
  | n + 13 => trivial
theorem rNew_hFs (P : Program) (B N : Nat) (x : Int) (n : Nat) (ps pi : Int)  : ∀ k i L α u u', i ≠ k → i ∉ rNewAnc k → L k = true → L i = false → rNewStep P B N x n ps pi i α u u' → rNewF P B N x n ps pi k L α u → rNewF P B N x n ps pi k (Reg.ran L i) α u' := by
  intro k i L α u u' hne hni hLk hLi hst hf
  obtain ⟨hi, h8, hkb⟩ := hst
  match k with
  | 0 => trivial
  | 1 => trivial
  | 2 => trivial
  | 3 => trivial
  | 4 =>
    refine ⟨hf.1.kept hkb ?_, hf.2⟩
    by_cases e8 : i = 8
    · rw [if_pos e8]
      have := (h8 e8).1
      intro hx
      have hx' : α 4 = α 5 := by simpa using hx
      exact Base.row_map (hx' ▸ hf.1) this
    · rw [if_neg e8]; simp
  | 5 =>
    refine ⟨hf.1, fun h => ?_⟩
    have e8 : i ≠ 8 := by rintro rfl; simp [Reg.ran] at h
    have hL8 : L 8 = false := by simpa [Reg.ran, Ne.symm e8] using h
    rw [if_neg e8] at hkb
    exact (hf.2 hL8).kept hkb (by simp)
  | 6 => trivial
  | 7 => trivial
  | 8 =>
    rw [if_neg hne] at hkb
    exact ⟨hf.1.kept hkb (by simp), hf.2⟩
  | 9 => trivial
  | 10 => trivial
  | 11 =>
    have e8 : i ≠ 8 := by rintro rfl; exact hni (by decide)
    rw [if_neg e8] at hkb
    exact ⟨hf.1.kept hkb (by simp), hf.2⟩
  | 12 => trivial
  | n + 13 => trivial
theorem rNew_hGs (P : Program) (B N : Nat) (x : Int) (n : Nat) (ps pi : Int) (W : World) (hN : W.heap.size ≤ N) : ∀ i L α u u', L i = false → rNewStep P B N x n ps pi i α u u' → rNewG P B N x n ps pi W L u → rNewG P B N x n ps pi W (Reg.ran L i) u' := by
  intro i L α u u' hLi hst hG
  obtain ⟨hi, h8, hkb⟩ := hst
  refine ⟨hkb.os.trans hG.os, hkb.tape.trans hG.tape, hkb.output.trans hG.output, Nat.le_trans hG.size hkb.size, fun k hk hn => ?_⟩
  refine (hkb.block k (Nat.lt_of_lt_of_le hk hG.size) ?_).trans (hG.block k hk hn)
  by_cases e8 : i = 8
  · rw [if_pos e8]
    have := (h8 e8).2
    simp only [List.mem_singleton]
    omega
  · rw [if_neg e8]; simp

def NewParser (x : Int) (n : Nat) (ps pi : Int) (w : World) (e : Ending) (w' : World) : Prop :=
  ∃ pb sb mb, e = .returned (.pointer (some ⟨pb, 0, none⟩)) ∧ Below w.heap.size w w' ∧ w.heap.size ≤ sb ∧ w.heap.size ≤ mb ∧ sb < pb ∧ mb < pb ∧
    Base.RowAt w' pb 178 (parserCells Tryz.prog x (.slice (some ⟨sb, 0, none⟩) n n) (.map (some mb))) ∧ Base.RowAt w' sb 196 (madeCells #[.pointer none, .string ⟨#[]⟩, .int .u32 0, .int .u32 0, .int .u32 0, .int .u32 0, .int .u32 0, .int .u16 0, .int .u8 0, .int .u8 0] (n * 10)) ∧ Base.MapAt w' mb #[⟨.string ⟨#[95, 95, 112, 111, 119]⟩, .agg #[.int .i32 0, .int .u32 ps, .int .u32 pi], 0⟩] 1
set_option maxRecDepth 100000 in
set_option maxHeartbeats 1000000 in
theorem newParser (x : Int) (n : Nat) (hn : n ≤ 65537) (ps pi : Int) (w : World) : Calls Tryz.prog 4 #[.int .u64 x, .int .i64 (n : Int), .agg #[.int .u32 ps, .int .u32 pi]] w (NewParser x n ps pi w) := by
  go_enter Tryz.func4, Tryz.ntmps4
  go_wp2
  generalize hW : World.alloc _ _ = W
  have hbelW : Below w.heap.size w W := by rw [← hW]; go_grown
  have c0 : W.cell? ⟨w.heap.size, 0, none⟩ = some (.int .u32 ps) := by rw [← hW]; simp [go_sem]
  have c1 : W.cell? ⟨w.heap.size, 1, none⟩ = some (.int .u32 pi) := by rw [← hW]; simp [go_sem]
  clear hW
  obtain ⟨B, hB⟩ : ∃ B, B = w.heap.size := ⟨_, rfl⟩
  obtain ⟨N, hNe⟩ : ∃ N, N = W.heap.size := ⟨_, rfl⟩
  have hNW : N ≤ W.heap.size := Nat.le_of_eq hNe
  have hWN : W.heap.size ≤ N := Nat.le_of_eq hNe.symm
  rw [← hB] at c0 c1 ⊢
  have HB := Lib.hid hB
  have HNe := Lib.hid hNe
  clear hB hNe
  refine Reg.wp_region_atoms (e := rNewE Tryz.prog B N x n ps pi) (F := rNewF Tryz.prog B N x n ps pi) (anc := rNewAnc) (G := rNewG Tryz.prog B N x n ps pi W) (Step := rNewStep Tryz.prog B N x n ps pi) (by kernel_rfl) (by kernel_rfl) (by kernel_rfl) (by kernel_rfl) (rNew_he Tryz.prog B N x n ps pi) (rNew_hF Tryz.prog B N x n ps pi) (rNew_hFs Tryz.prog B N x n ps pi ) (rNew_hGs Tryz.prog B N x n ps pi W hWN) (Base.KeptBut.refl _ _).drew (Reg.RunsAll.all ?_) ?_
  · refine ⟨?_, ?_, ?_, ?_, ?_, ?_, ?_, ?_, ?_, ?_, ?_, ?_, ?_, trivial⟩
    · intro L α a u K hL hG hA hS h0 hK
      have q0 : a.tmps[0]? = some (.int .u64 x) := (h0 0 (by kernel_rfl)).trans rfl
      have s0 := Reg.eval_of q0
      go_simp
      exact hK _ α _ (fun _ _ => rfl) rfl trivial ⟨by decide, fun h => absurd h (by decide), .refl _ _⟩
    · intro L α a u K hL hG hA hS h0 hK
      have q7 : a.tmps[7]? = some (.int .u64 x) := hS 0 7 (by decide) rfl (by show 7 < 18; decide)
      have s7 := Reg.eval_of q7
      refine Base.wp_buildL 78 (l := [(2, .tmp 7)]) rfl [(2, .int .u64 x)] (by simp [go_sem, q7]) (by kernel_rfl) ?_
      exact hK _ α _ (fun _ _ => rfl) rfl trivial ⟨by decide, fun h => absurd h (by decide), .refl _ _⟩
    · intro L α a u K hL hG hA hS h0 hK
      have q8 : a.tmps[8]? = some (.agg (Base.builtOf Tryz.prog 78 [(2, .int .u64 x)])) := hS 1 8 (by decide) rfl (by show 8 < 18; decide)
      have s8 := Reg.eval_of q8
      refine Base.wp_buildL 91 (l := [(7, .tmp 8)]) rfl [(7, (.agg (Base.builtOf Tryz.prog 78 [(2, .int .u64 x)])))] (by simp [go_sem, q8]) (by kernel_rfl) ?_
      exact hK _ α _ (fun _ _ => rfl) rfl trivial ⟨by decide, fun h => absurd h (by decide), .refl _ _⟩
    · intro L α a u K hL hG hA hS h0 hK
      have q1 : a.tmps[1]? = some (.int .i64 (n : Int)) := (h0 1 (by kernel_rfl)).trans rfl
      have s1 := Reg.eval_of q1
      go_simp
      exact hK _ α _ (fun _ _ => rfl) rfl trivial ⟨by decide, fun h => absurd h (by decide), .refl _ _⟩
    · intro L α a u K hL hG hA hS h0 hK
      have q10 : a.tmps[10]? = some (.int .i64 (n : Int)) := hS 3 10 (by decide) rfl (by show 10 < 18; decide)
      have s10 := Reg.eval_of q10
      have hm := makeSym n hn u
      go_simp
      exact hK _ (Reg.upd α 4 u.heap.size) _ (fun j hj => if_neg hj) rfl ⟨Base.RowAt.new u _ _, Nat.le_trans hNW hG.size⟩ ⟨by decide, fun h => absurd h (by decide), (Base.KeptBut.refl _ _).alloc _⟩
    · intro L α a u K hL hG hA hS h0 hK
      have hm := run_makeMap (P := Tryz.prog) 95 u
      go_simp
      exact hK _ (Reg.upd α 5 u.heap.size) _ (fun j hj => if_neg hj) rfl ⟨Nat.le_trans hNW hG.size, fun _ => Base.MapAt.new u⟩ ⟨by decide, fun h => absurd h (by decide), (Base.KeptBut.refl _ _).alloc _⟩
    · intro L α a u K hL hG hA hS h0 hK
      have q5 : a.tmps[5]? = some (.pointer (some ⟨B, 0, none⟩)) := (h0 5 (by kernel_rfl)).trans rfl
      have s5 := Reg.eval_of q5
      have c0 : u.cell? ⟨B, 0, none⟩ = some (.int .u32 ps) := hG.cell_some c0 (by simp <;> omega)
      have c1 : u.cell? ⟨B, 1, none⟩ = some (.int .u32 pi) := hG.cell_some c1 (by simp <;> omega)
      go_simp
      exact hK _ α _ (fun _ _ => rfl) rfl trivial ⟨by decide, fun h => absurd h (by decide), .refl _ _⟩
    · intro L α a u K hL hG hA hS h0 hK
      have q13 : a.tmps[13]? = some (.agg #[.int .u32 ps, .int .u32 pi]) := hS 6 13 (by decide) rfl (by show 13 < 18; decide)
      have s13 := Reg.eval_of q13
      go_simp
      exact hK _ α _ (fun _ _ => rfl) rfl trivial ⟨by decide, fun h => absurd h (by decide), .refl _ _⟩
    · intro L α a u K hL hG hA hS h0 hK
      have q12 : a.tmps[12]? = some (.map (some (α 5))) := hS 5 12 (by decide) rfl (by show 12 < 18; decide)
      have s12 := Reg.eval_of q12
      have q14 : a.tmps[14]? = some (.agg #[.int .i32 0, .int .u32 ps, .int .u32 pi]) := hS 7 14 (by decide) rfl (by show 14 < 18; decide)
      have s14 := Reg.eval_of q14
      have hf5 := (hA 5 (by decide)).2
      have hm := Base.run_update_new (P := Tryz.prog) u Tryz.underlying95 Tryz.underlying9 (hf5.2 hL) ⟨#[95, 95, 112, 111, 119]⟩ (.agg #[.int .i32 0, .int .u32 ps, .int .u32 pi]) rfl
      go_simp
      exact hK _ α _ (fun _ _ => rfl) rfl ⟨(hf5.2 hL).set _ _, hf5.1⟩ ⟨by decide, fun _ => ⟨hf5.2 hL, hf5.1⟩, (Base.KeptBut.refl _ _).setMap (Or.inl (by simp)) _ _⟩
    · intro L α a u K hL hG hA hS h0 hK
      have q12 : a.tmps[12]? = some (.map (some (α 5))) := hS 5 12 (by decide) rfl (by show 12 < 18; decide)
      have s12 := Reg.eval_of q12
      go_simp
      exact hK _ α _ (fun _ _ => rfl) rfl trivial ⟨by decide, fun h => absurd h (by decide), .refl _ _⟩
    · intro L α a u K hL hG hA hS h0 hK
      have q9 : a.tmps[9]? = some (.agg (Base.builtOf Tryz.prog 91 [(7, (.agg (Base.builtOf Tryz.prog 78 [(2, .int .u64 x)])))])) := hS 2 9 (by decide) rfl (by show 9 < 18; decide)
      have s9 := Reg.eval_of q9
      have q11 : a.tmps[11]? = some (.slice (some ⟨α 4, 0, none⟩) n n) := hS 4 11 (by decide) rfl (by show 11 < 18; decide)
      have s11 := Reg.eval_of q11
      have q15 : a.tmps[15]? = some (.map (some (α 5))) := hS 9 15 (by decide) rfl (by show 15 < 18; decide)
      have s15 := Reg.eval_of q15
      refine Base.wp_buildL 178 (l := [(0, .tmp 9), (9, .tmp 11), (20, .tmp 15)]) rfl [(0, (.agg (Base.builtOf Tryz.prog 91 [(7, (.agg (Base.builtOf Tryz.prog 78 [(2, .int .u64 x)])))]))), (9, .slice (some ⟨α 4, 0, none⟩) n n), (20, .map (some (α 5)))] (by simp [go_sem, q9, q11, q15]) (by kernel_rfl) ?_
      exact hK _ α _ (fun _ _ => rfl) rfl trivial ⟨by decide, fun h => absurd h (by decide), .refl _ _⟩
    · intro L α a u K hL hG hA hS h0 hK
      have q16 : a.tmps[16]? = some (.agg (parserCells Tryz.prog x (.slice (some ⟨α 4, 0, none⟩) n n) (.map (some (α 5))))) := hS 10 16 (by decide) rfl (by show 16 < 18; decide)
      have s16 := Reg.eval_of q16
      have f4 := (hA 4 (by decide)).2
      have f8 := (hA 8 (by decide)).2
      go_simp
      exact hK _ (Reg.upd α 11 u.heap.size) _ (fun j hj => if_neg hj) rfl ⟨Base.RowAt.new u _ _, Nat.le_trans hNW hG.size, f4.1.lt, f8.1.lt⟩ ⟨by decide, fun h => absurd h (by decide), (Base.KeptBut.refl _ _).alloc _⟩
    · intro L α a u K hL hG hA hS h0 hK
      have q17 : a.tmps[17]? = some (.pointer (some ⟨α 11, 0, none⟩)) := hS 11 17 (by decide) rfl (by show 17 < 18; decide)
      have s17 := Reg.eval_of q17
      go_simp
      exact hK _ α _ (fun _ _ => rfl) rfl trivial ⟨by decide, fun h => absurd h (by decide), .refl _ _⟩
  · intro α u hG hF
    have f4 := hF 4 (by decide)
    have f5 := hF 5 (by decide)
    have f8 := hF 8 (by decide)
    have f11 := hF 11 (by decide)
    generalize hfr : Reg.frameAt _ _ _ _ _ = fr
    have q6 : fr.tmps[6]? = some (.pointer (some ⟨α 11, 0, none⟩)) := by rw [← hfr]; kernel_rfl
    have hdf : fr.defers = [] := by rw [← hfr]; kernel_rfl
    clear hfr
    go_wp2
    have hB := HB.out
    have hNe := HNe.out
    have hbu : Below w.heap.size w u := hbelW.trans (hG.below hbelW.size (fun k hk => by simp at hk))
    have hsz := hbelW.size
    refine bodyPost_ret (v := .pointer (some ⟨α 11, 0, none⟩)) ?_ hdf ?_
    · simp [results, Tryz.results4, go_sem, q6]
    · have h4 := f4.2
      have h8 := f8.2
      exact ⟨α 11, α 4, α 5, rfl, hbu, by omega, by omega, f11.2.2.1, f11.2.2.2, f11.1, f4.1, f8.1⟩
end Go.Proofs.YtlgefnjkoklboaaGreatDoor.l131
